/- Points by their bytes: what comes in, what comes out, as the executor sees it. -/
import Derived.Test.YtccmmkgiamcgeaaHP1
set_option linter.all false
namespace P224
open Go Go.RowKit Go.Proofs
set_option maxRecDepth 100000
set_option linter.unusedVariables false
inductive PtAt (w:World) (v:Value):Pt pp→Prop where
 | far (b o c:Nat) (hv:v=.slice (some ⟨b,o,none⟩) 1 c) (hc:1≤c) (hp:w.cell? ⟨b,o,none⟩=some (.int .u8 0)):PtAt w v .far
 | on (b o c x y:Nat) (hv:v=.slice (some ⟨b,o,none⟩) 57 c) (hc:57≤c) (hp:PtBytes w b o x y) (hx:x<pq) (hy:y<pq) (hon:onN x y=1):PtAt w v (ptN x y)
inductive NewAt (w:World) (v:Value) (w':World):Pt pp→Prop where
 | far (b:Nat) (hge:w.heap.size≤b) (hlt:b<w'.heap.size) (hv:v=.slice (some ⟨b,0,none⟩) 1 57) (hp:w'.cell? ⟨b,0,none⟩=some (.int .u8 0)) (hz:w'.frozen? ⟨b,0,none⟩=false) (hb:Below w.heap.size w w'):NewAt w v w' .far
 | on (b x y:Nat) (hge:w.heap.size≤b) (hlt:b<w'.heap.size) (hv:v=.slice (some ⟨b,0,none⟩) 57 57) (hp:PtBytes w' b 0 x y) (hx:x<pq) (hy:y<pq) (hz:∀ k,k<57→w'.frozen? ⟨b,k,none⟩=false) (hb:Below w.heap.size w w'):NewAt w v w' (ptN x y)
section
variable {s:Nums} {β:Places} {F:Fix} {w0:World} {st:St} {a:Act} {w:World}
inductive PR where
 | far
 | pt (i j:Nat)
 | new (cf cx cy:Ex)
end
end P224
/- Points come out as bytes: the executor is right; a call of two slices of points. -/
namespace P224
open Go Go.RowKit Go.Proofs
set_option maxRecDepth 100000
set_option linter.unusedVariables false
section
variable {s:Nums} {β:Places} {F:Fix} {w0:World} {st:St} {a:Act} {w:World}
theorem NewAt.below {v:Value} {w':World} {p:Pt pp} (h:NewAt w v w' p):Below w.heap.size w w':=by
 cases h <;> assumption
end
section
variable {s:Nums} {β:Places} {F:Fix} {w0:World} {st:St} {a:Act} {w:World}
end
end P224
/- What comes out as bytes of a point. PRINTED BY A PROGRAM OF MY OWN (gen/mk9.py). -/
namespace P224
open Go Go.RowKit Go.Proofs
set_option maxRecDepth 100000
set_option linter.unusedVariables false
end P224
/- Points of the reference. PRINTED BY A PROGRAM OF MY OWN (gen/mk32b.py). -/
namespace P224
open Go Go.RowKit Go.Proofs
set_option maxRecDepth 100000
set_option linter.unusedVariables false
inductive SPt (w:World) (v:Value):Pt pp→Prop where
 | far (hv:v=.agg #[.bool true,.slice none 0 0,.slice none 0 0]):SPt w v .far
 | on (b1 b2 x y:Nat) (hv:v=.agg #[.bool false,.slice (some ⟨b1,0,none⟩) 7 7,.slice (some ⟨b2,0,none⟩) 7 7]) (h1:El w b1 0 x) (h2:El w b2 0 y) (hx:x<pq) (hy:y<pq) (hon:onN x y=1):SPt w v (ptN x y)
inductive NewS (w:World) (v:Value) (w':World):Pt pp→Prop where
 | far (hv:v=.agg #[.bool true,.slice none 0 0,.slice none 0 0]) (hb:Below w.heap.size w w'):NewS w v w' .far
 | on (bx b2 x y:Nat) (hv:v=.agg #[.bool false,.slice (some ⟨bx,0,none⟩) 7 7,.slice (some ⟨b2,0,none⟩) 7 7]) (hn:NewEls w x y bx b2 w') (hx:x<pq) (hy:y<pq):NewS w v w' (ptN x y)
end P224
/- The package's Add of two points by their bytes. PRINTED BY A PROGRAM OF MY OWN (gen/mk9.py). -/
namespace P224
open Go Go.RowKit Go.Proofs
set_option maxRecDepth 100000
set_option linter.unusedVariables false
end P224
