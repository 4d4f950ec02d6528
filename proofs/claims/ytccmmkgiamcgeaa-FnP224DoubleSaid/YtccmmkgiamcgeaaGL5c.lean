/- Law Double at a point with coordinates. -/
import Derived.Test.YtccmmkgiamcgeaaGL5
import Derived.Test.YtccmmkgiamcgeaaGR2
set_option linter.all false
namespace P224
open Go Go.RowKit Go.Proofs
set_option maxRecDepth 100000
set_option linter.unusedVariables false

theorem calls5_on (w : World) (b o c x y : Nat) (hc : 57 ≤ c) (hp : PtBytes w b o x y) (hx : x < pq) (hy : y < pq) (hon : onN x y = 1) :
    Calls Try.prog 5 #[.slice (some ⟨b, o, none⟩) 57 c] w fun e w' => e = .returned (.bool true) ∧ Below w.heap.size w w' := by
  let β : Places := fun r => (b, o)
  let s0 : Nums := fun i => if i = 0 then x else y
  have hlt : b < w.heap.size := World.block_lt_of_cell? w _ (hp 0 4 rfl)
  refine calls_briefR (F := fix5) (tabX_ok pointPrims_ok xm4_ok) run5 Try.func5 Try.ntmps5 rfl (by decide +kernel) (by decide +kernel) (by decide +kernel) (show 1 ≤ 51 by decide) (show 1 < 4095 by decide) s0 β
    (vals := [.slice (some ⟨b, o, none⟩) 57 c]) (fun s hs => ⟨⟨c, hc, rfl, show 0 < 1 by decide⟩, trivial⟩)
    (fun s hs => ⟨show 0 < 1 by decide, ptRow_row rfl hp (hs 0 (by decide)) (hs 1 (by decide)) hx hy, trivial⟩) (fun r l hl hr => by cases hr) (fun r _ => hlt) (fun r q _ _ h => by cases h) ?_ ?_
  · intro s hs hH i bb hb
    obtain ⟨e2, e3, e4, e14, e21, e27, e34, e35, e36, e37, e38, e51, e52, e53, e54⟩ := law5 (hs 0 (by decide)) (hs 1 (by decide)) hx hy hon hH
    have hb' : findT i dec5 = some bb := hb
    have := findT_mem hb'
    simp only [dec5, List.mem_cons, List.not_mem_nil, or_false, Prod.mk.injEq] at this
    rcases this with ⟨rfl, rfl⟩ | ⟨rfl, rfl⟩ | ⟨rfl, rfl⟩ | ⟨rfl, rfl⟩ | ⟨rfl, rfl⟩ | ⟨rfl, rfl⟩ | ⟨rfl, rfl⟩ | ⟨rfl, rfl⟩ | ⟨rfl, rfl⟩ | ⟨rfl, rfl⟩ | ⟨rfl, rfl⟩ | ⟨rfl, rfl⟩ | ⟨rfl, rfl⟩ | ⟨rfl, rfl⟩ <;> assumption
  · intro s hs hH st' β' a' w' v hv hm hag hr hbe
    obtain ⟨e2, e3, e4, e14, e21, e27, e34, e35, e36, e37, e38, e51, e52, e53, e54⟩ := law5 (hs 0 (by decide)) (hs 1 (by decide)) hx hy hon hH
    have hv' : v = .bool (s 54 == 1) := hv.1
    refine ⟨?_, hbe⟩
    rw [hv', e54]
    rfl
end P224
/- Law Double at the point that is infinitely far. -/
namespace P224
open Go Go.RowKit Go.Proofs
set_option maxRecDepth 100000
set_option linter.unusedVariables false

def ex5f : List Ex := [
.op 19 [.c 0, .c 0],
.op 19 [.c 0, .c 0],
.feq (.v 28) (.c 1),
.feq (.v 27) (.c 0),
.op 18 [(.v 23), (.v 24)],
.op 16 [(.v 21), (.v 23), (.v 24), (.v 21), (.v 23), (.v 24)],
.op 15 [(.v 21), (.v 23), (.v 24), (.v 21), (.v 23), (.v 24)],
.fcst 0,
.fcst 1,
.fcst 0,
.fcst 0,
.fcst 0,
.fcst 1,
.fcst 0,
.fcst 0,
.feq (.v 15) (.c 1),
.feq (.v 14) (.c 0),
.op 18 [(.v 6), (.v 7)],
.op 16 [(.v 4), (.v 6), (.v 7), (.v 4), (.v 6), (.v 7)],
.op 15 [(.v 4), (.v 6), (.v 7), (.v 4), (.v 6), (.v 7)],
.fcst 0,
.fcst 1,
.fcst 0,
.fcst 0,
.fcst 0,
.fcst 1,
.fcst 0,
.fcst 0,
.fcst 0,
.fcst 1,
.fcst 0,
.fcst 0]
def fix5f : Fix := fixD 51 1 [] [] [(16, true), (29, true), (30, true)]
def st5f : St := startSt [.one (.sl 0 0 1)] [(0, [.lit (.int .u8 0)])] 0 1
def br5f : BriefR := ⟨.ret, 32, ex5f, [], [.one (.bl 31)], []⟩
theorem run5f : briefR (tabX true pointPrims xm4) Try.f5 [] (runF (tabX true pointPrims xm4) fix5f 3000 Try.f5 st5f) = some br5f := by kernel_rfl

theorem z_far {a b c : Nat} (hc : c = 0 % pq) (h : b = 8 * (a * a * a) * c % pq) : b = 0 := by
  rw [h, hc, Nat.zero_mod, Nat.mul_zero, Nat.zero_mod]
theorem law5f {s : Nums} (h : Holds s 32 ex5f) : s 16 = 1 ∧ s 29 = 1 ∧ s 30 = 1 ∧ s 31 = 1 := by
  obtain ⟨h31, h30, h29, h28, h27, h26, h25, h24, h23, h22, h21, h20, h19, h18, h17, h16, h15, h14, h13, h12, h11, h10, h9, h8, h7, _⟩ := h
  have e14 := z_far (a := s 6) (c := s 7) (b := s 14) h7 h14
  have e27 := z_far (a := s 23) (c := s 24) (b := s 27) h24 h27
  have e15 : s 15 = if s 14 = 0 then 1 else 0 := h15
  have e16 : s 16 = if s 15 = 1 then 1 else 0 := h16
  have e28 : s 28 = if s 27 = 0 then 1 else 0 := h28
  have e29 : s 29 = if s 28 = 1 then 1 else 0 := h29
  rw [if_pos e14] at e15
  rw [if_pos e15] at e16
  rw [if_pos e27] at e28
  rw [if_pos e28] at e29
  have v00 : Ex.val s (.op 19 [.c 0, .c 0]) = 1 := opVal_19 [0] [0] rfl
  exact ⟨e16, e29, h30.trans v00, h31.trans v00⟩

theorem calls5_far (w : World) (b o c : Nat) (hc : 1 ≤ c) (hp : w.cell? ⟨b, o, none⟩ = some (.int .u8 0)) :
    Calls Try.prog 5 #[.slice (some ⟨b, o, none⟩) 1 c] w fun e w' => e = .returned (.bool true) ∧ Below w.heap.size w w' := by
  let β : Places := fun r => (b, o)
  have hlt : b < w.heap.size := World.block_lt_of_cell? w _ hp
  refine calls_briefR (F := fix5f) (tabX_ok pointPrims_ok xm4_ok) run5f Try.func5 Try.ntmps5 rfl (by decide +kernel) (by decide +kernel) (by decide +kernel) (show 1 ≤ 51 by decide) (show 1 < 4095 by decide) (fun _ => 0) β
    (vals := [.slice (some ⟨b, o, none⟩) 1 c]) (fun s hs => ⟨⟨c, hc, rfl, show 0 < 1 by decide⟩, trivial⟩)
    (fun s hs => ⟨show 0 < 1 by decide, ⟨⟨_, hp, rfl⟩, trivial⟩, trivial⟩) (fun r l hl hr => by cases hr) (fun r _ => hlt) (fun r q _ _ h => by cases h) ?_ ?_
  · intro s hs hH i bb hb
    obtain ⟨e1, e2, e3, _⟩ := law5f hH
    have hb' : findT i [(16, true), (29, true), (30, true)] = some bb := hb
    have := findT_mem hb'
    simp only [List.mem_cons, List.not_mem_nil, or_false, Prod.mk.injEq] at this
    rcases this with ⟨rfl, rfl⟩ | ⟨rfl, rfl⟩ | ⟨rfl, rfl⟩ <;> assumption
  · intro s hs hH st' β' a' w' v hv hm hag hr hbe
    obtain ⟨_, _, _, e4⟩ := law5f hH
    have hv' : v = .bool (s 31 == 1) := hv.1
    refine ⟨?_, hbe⟩
    rw [hv', e4]
    rfl
end P224
/- Law Double at whatever slice. -/
namespace P224
open Go Go.RowKit Go.Proofs
set_option maxRecDepth 100000
set_option linter.unusedVariables false

theorem run5p : briefR (tabZ xz) Try.f5 [] (runF (tabZ xz) (fixN 51 1 [(4, true)] [(0, (0, 3))]) 3000 Try.f5 (startSt [.one (.sy 0 0)] [] 4 1)) = some ⟨.ret, 5, [.op 3 [.c 2147483647, .v 0]], [], [.one (.lit (.bool true))], []⟩ := by kernel_rfl
theorem run5q : briefR (tabZ xz) Try.f5 [] (runF (tabZ xz) (fixN 51 1 [(4, false), (3, false), (5, true)] [(0, (0, 3))]) 3000 Try.f5 (startSt [.one (.sy 0 0)] [] 4 1)) = some ⟨.ret, 6, [.feq (.v 3) (.c 0), .op 3 [.c 2147483647, .v 0]], [], [.one (.lit (.bool true))], []⟩ := by kernel_rfl
theorem law5_all {w : World} {v : Value} {b o n u d f : Nat} (h : Sl w v b o n u d f) : Law 5 w [v] := by
  by_cases hb : 2147483647 < n ∨ f = 0
  · exact law_one xz_ok run5p run5q Try.func5 Try.ntmps5 (by decide) h hb
  · have hf : f = 1 := by have := h.flag.le; omega
    subst hf
    rcases h.point with ⟨b, o, c, rfl, hc, hp⟩ | ⟨b, o, c, x, y, rfl, hc, hp, hx, hy, hon⟩
    · exact calls5_far w b o c hc hp
    · exact calls5_on w b o c x y hc hp hx hy hon
end P224
