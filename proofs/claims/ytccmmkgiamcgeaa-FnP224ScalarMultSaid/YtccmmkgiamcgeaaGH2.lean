/- The constant of the curve, the sum and the double of points: what they do, and as calls that the executor knows. -/
import Derived.Test.YtccmmkgiamcgeaaGG8
import Derived.Test.YtccmmkgiamcgeaaGH1
set_option linter.all false
namespace P224
open Go Go.RowKit Go.Proofs
set_option maxRecDepth 100000
set_option linter.unusedVariables false

/-! ### the constant -/
noncomputable def xs91 : List (Nat × X) := [(94, x94)]
theorem xs91_ok : XsOk xs91 := xcons_ok x94_ok xnil_ok
def fixD (nt n : Nat) (l : List Nat) (sp : List (Nat × Nat)) (d : List (Nat × Bool)) : Fix :=
  { nt := nt, nold := n, wr := fun r => l.contains r, sep := fun a b => sp.contains (a, b) || sp.contains (b, a), dec := fun i => findT i d }
def bBytes : List Nat := [180, 5, 10, 133, 12, 4, 179, 171, 245, 65, 50, 86, 80, 68, 176, 183, 215, 191, 216, 186, 39, 11, 57, 67, 35, 85, 255, 180]
def b91 : BriefR := ⟨.ret, 3, [.op 4 [.v 1, .c pq], .op 2 (bBytes.map .c), .fcst 0], [], [.one (.ptr 0 0)], [some (limbs 1)]⟩
theorem run91 : briefR (tabX true [] xs91) Try.f91 [0] (runF (tabX true [] xs91) (fixD 10 0 [] [] [(2, true)]) 2000 Try.f91 (startSt [] [] 0 0)) = some b91 := by kernel_rfl
theorem bBytes_val : ofBytes bBytes = bq := by decide +kernel
theorem bq_lt : bq < pq := by decide +kernel

theorem meets91 : PrimOk Try.prog 91 .fB := by
  unfold PrimOk
  intro w
  refine meets_of_calls Try.func91 (by kernel_rfl) (by kernel_rfl) ?_
  have e1 : ∀ s : Nums, Holds s 3 b91.exs → s 1 = bq ∧ s 2 = 1 := fun s hH => by
    obtain ⟨h2, h1, _⟩ := hH
    have h1' : s 1 = ofBytes bBytes := h1
    have h2' : s 2 = if s 1 < pq then 1 else 0 := h2
    rw [bBytes_val] at h1'
    rw [h1', if_pos bq_lt] at h2'
    exact ⟨h1', h2'⟩
  refine calls_briefR (F := fixD 10 0 [] [] [(2, true)]) (tabX_ok noPrims_ok xs91_ok) run91 Try.func91 Try.ntmps91 rfl (by decide +kernel) (by decide +kernel) (by decide +kernel) (by decide) (by decide) (fun _ => 0) (fun _ => (0, 0))
    (vals := []) (fun s hs => trivial) (fun s hs => trivial) (fun r l hl => by cases hl) (fun r hr => absurd hr (Nat.not_lt_zero r)) (fun r q hr => absurd hr (Nat.not_lt_zero r)) ?_ ?_
  · intro s hs hH i bb hb
    have hb' : findT i [(2, true)] = some bb := hb
    have := findT_mem hb'
    simp only [List.mem_cons, List.not_mem_nil, or_false, Prod.mk.injEq] at this
    obtain ⟨rfl, rfl⟩ := this
    exact (e1 s hH).2
  · intro s hs hH st' β' a' w' v hv hm hag hr hbe
    have hl : lookup 0 st'.mem = some (limbs 1) := by
      have : [lookup 0 st'.mem] = [some (limbs 1)] := hm
      simpa using this
    obtain ⟨hrn, hc⟩ := hr.mem 0 _ hl
    have hv' : v = .pointer (some (at_ β' 0 0)) := hv.1
    obtain ⟨f1, f2, f3⟩ := hr.fresh 0 (Nat.zero_le _) hrn
    have hel : elemAt st'.mem 0 0 = some 1 := by
      unfold elemAt cellsAt
      rw [hl]
      rfl
    obtain ⟨g1, g2⟩ := elemAt_rep hr hel
    rw [(e1 s hH).1, f3] at g1
    refine ⟨_, rfl, (β' 0).1, f1, f2, ?_, g1, fun k hk => ?_, hbe⟩
    · rw [hv', at_, f3]
    · have := hr.frz 0 _ hl (.inl (Nat.zero_le _)) k hk
      rw [at_, f3, Nat.zero_add] at this
      exact this

/-! ### points -/
/-- Where a point lies: its block and the blocks of its coordinates. -/
structure PtR where
  b : Nat
  o : Nat
  bx : Nat
  ox : Nat
  b2 : Nat
  oy : Nat
  bz : Nat
  oz : Nat
def PtR.cells (p : PtR) (w : World) : Prop :=
  w.cell? ⟨p.b, p.o, none⟩ = some (ptrTo p.bx p.ox) ∧ w.cell? ⟨p.b, p.o + 1, none⟩ = some (ptrTo p.b2 p.oy) ∧ w.cell? ⟨p.b, p.o + 2, none⟩ = some (ptrTo p.bz p.oz)
def PtR.room (p : PtR) (w : World) : Prop := (RoomAt w p.bx p.ox ∧ RoomAt w p.b2 p.oy ∧ RoomAt w p.bz p.oz) ∧ p.bx < w.heap.size ∧ p.b2 < w.heap.size ∧ p.bz < w.heap.size
def PtR.apart (p : PtR) : Prop := p.b ≠ p.bx ∧ p.b ≠ p.b2 ∧ p.b ≠ p.bz ∧ p.bx ≠ p.b2 ∧ p.bx ≠ p.bz ∧ p.b2 ≠ p.bz
def PtR.val (p : PtR) (w : World) (x y z : Nat) : Prop := ElemAt w p.bx p.ox x ∧ ElemAt w p.b2 p.oy y ∧ ElemAt w p.bz p.oz z ∧ x < pq ∧ y < pq ∧ z < pq
def PtR.set (p : PtR) (w : World) (x y z : Nat) : World := ((w.setCells p.bx p.ox (words x)).setCells p.b2 p.oy (words y)).setCells p.bz p.oz (words z)

def ptCells (r : Nat) : List A0 := [.ptr (r + 1) 0, .ptr (r + 2) 0, .ptr (r + 3) 0]
def a4 : List A0 := [.any, .any, .any, .any]
def outPt (i j k : Nat) : List (Nat × Nat × A0) := [(3, 3, .limb k 3), (3, 2, .limb k 2), (3, 1, .limb k 1), (3, 0, .limb k 0), (2, 3, .limb j 3), (2, 2, .limb j 2), (2, 1, .limb j 1), (2, 0, .limb j 0), (1, 3, .limb i 3), (1, 2, .limb i 2), (1, 1, .limb i 1), (1, 0, .limb i 0)]
def sp0 : List (Nat × Nat) := [(0, 1), (0, 2), (0, 3), (1, 2), (1, 3), (2, 3)]
def pointPrims : List (Nat × Prim) := (91, .fB) :: bytePrims
theorem pointPrims_ok : ∀ f p, (f, p) ∈ pointPrims → PrimOk Try.prog f p := fun f p h => by
  rcases List.mem_cons.1 h with e | h
  · cases e; exact meets91
  · exact bytePrims_ok f p h

theorem outPt_apply {s : Nums} {β : Places} {w : World} {i j k : Nat} {p : PtR} (h1 : β 1 = (p.bx, p.ox)) (h2 : β 2 = (p.b2, p.oy)) (h3 : β 3 = (p.bz, p.oz)) : applyOut s β w (outPt i j k) = p.set w (s i) (s j) (s k) := by
  have e : applyOut s β w (outPt i j k) = (((((((((((w.setCell (at_ β 1 0) (.int .u64 (lim 0 (s i) : Int))).setCell (at_ β 1 1) (.int .u64 (lim 1 (s i) : Int))).setCell (at_ β 1 2) (.int .u64 (lim 2 (s i) : Int))).setCell (at_ β 1 3) (.int .u64 (lim 3 (s i) : Int))).setCell
    (at_ β 2 0) (.int .u64 (lim 0 (s j) : Int))).setCell (at_ β 2 1) (.int .u64 (lim 1 (s j) : Int))).setCell (at_ β 2 2) (.int .u64 (lim 2 (s j) : Int))).setCell (at_ β 2 3) (.int .u64 (lim 3 (s j) : Int))).setCell
    (at_ β 3 0) (.int .u64 (lim 0 (s k) : Int))).setCell (at_ β 3 1) (.int .u64 (lim 1 (s k) : Int))).setCell (at_ β 3 2) (.int .u64 (lim 2 (s k) : Int))).setCell (at_ β 3 3) (.int .u64 (lim 3 (s k) : Int)) := rfl
  rw [e]
  simp only [at_, h1, h2, h3]
  rfl

theorem limb_row {s : Nums} {β : Places} {n r i b o x : Nat} {w : World} (hβ : β r = (b, o)) (h : ElemAt w b o x) (hs : s i = x) (hx : x < pq) : RowOk s β n r w 0 (limbs i) := by
  have key : ∀ k, k < 4 → ∃ v, w.cell? (at_ β r k) = some v ∧ (A0.limb i k).rep s β n v := fun k hk => by
    refine ⟨_, by rw [at_, hβ]; exact h k hk, ?_, ?_⟩
    · rw [hs]
    · rw [hs]; exact hx
  exact ⟨key 0 (by decide), key 1 (by decide), key 2 (by decide), key 3 (by decide), trivial⟩
theorem a4_row {s : Nums} {β : Places} {n r b o : Nat} {w : World} (hβ : β r = (b, o)) (h : RoomAt w b o) : RowOk s β n r w 0 a4 := any4_row hβ h
theorem pt_row {s : Nums} {β : Places} {n r : Nat} {p : PtR} {w : World} (h0 : β r = (p.b, p.o)) (h1 : β (r + 1) = (p.bx, p.ox)) (h2 : β (r + 2) = (p.b2, p.oy)) (h3 : β (r + 3) = (p.bz, p.oz)) (hc : p.cells w) (hn : r + 3 < n) :
    RowOk s β n r w 0 (ptCells r) := by
  obtain ⟨c1, c2, c3⟩ := hc
  refine ⟨⟨_, by rw [at_, h0]; exact c1, ?_, by omega⟩, ⟨_, by rw [at_, h0]; exact c2, ?_, by omega⟩, ⟨_, by rw [at_, h0]; exact c3, ?_, by omega⟩, trivial⟩
  · rw [at_, h1]; rfl
  · rw [at_, h2]; rfl
  · rw [at_, h3]; rfl

theorem eq_of_fi {a c : Nat} (ha : a < pp) (hc : c < pp) (h : fi pp a = fi pp c) : a = c := by
  have := fi_eq.1 h
  rwa [Nat.mod_eq_of_lt ha, Nat.mod_eq_of_lt hc] at this
theorem bq_bN : bq = bN := rfl
theorem sx_eq (x1 y1 z1 x2 y2 z2 : Nat) {a : Nat} (ha : a < pq) (h : fi pp a = sx bb (fi pp x1) (fi pp y1) (fi pp z1) (fi pp x2) (fi pp y2) (fi pp z2)) : a = sxN pq bq x1 y1 z1 x2 y2 z2 := by
  refine eq_of_fi ha (Nat.mod_lt _ fpos) ?_
  rw [h]
  exact (fi_sxN bN x1 y1 z1 x2 y2 z2).symm
theorem sy_eq (x1 y1 z1 x2 y2 z2 : Nat) {a : Nat} (ha : a < pq) (h : fi pp a = sy bb (fi pp x1) (fi pp y1) (fi pp z1) (fi pp x2) (fi pp y2) (fi pp z2)) : a = syN pq bq x1 y1 z1 x2 y2 z2 := by
  refine eq_of_fi ha (Nat.mod_lt _ fpos) ?_
  rw [h]
  exact (fi_syN bN x1 y1 z1 x2 y2 z2).symm
theorem sz_eq (x1 y1 z1 x2 y2 z2 : Nat) {a : Nat} (ha : a < pq) (h : fi pp a = sz bb (fi pp x1) (fi pp y1) (fi pp z1) (fi pp x2) (fi pp y2) (fi pp z2)) : a = szN pq bq x1 y1 z1 x2 y2 z2 := by
  refine eq_of_fi ha (Nat.mod_lt _ fpos) ?_
  rw [h]
  exact (fi_szN bN x1 y1 z1 x2 y2 z2).symm
theorem dz_eq (y z : Nat) {a : Nat} (ha : a < pq) (h : fi pp a = 8 * (fi pp y * fi pp y * fi pp y) * fi pp z) : a = 8 * (y * y * y) * z % pq := by
  refine eq_of_fi ha (Nat.mod_lt _ fpos) ?_
  rw [h, pq_pp, fi_mod, fi_mul, fi_mul, fi_mul, fi_mul]
  rfl

def b74 : BriefR := ⟨.ret, 59, ex74, outPt 55 53 58, [.one (.ptr 0 0)], []⟩
def st74 : St := startSt [.one (.ptr 0 0), .one (.ptr 4 0), .one (.ptr 8 0)] [(0, ptCells 0), (1, a4), (2, a4), (3, a4), (4, ptCells 4), (5, limbs 0), (6, limbs 1), (7, limbs 2), (8, ptCells 8), (9, limbs 3), (10, limbs 4), (11, limbs 5)] 6 12
theorem run74 : briefR (tabX true pointPrims []) Try.f74 [] (runF (tabX true pointPrims []) (fixD 260 12 [1, 2, 3] sp0 []) 2000 Try.f74 st74) = some b74 := by kernel_rfl
def b69 : BriefR := ⟨.ret, 46, ex69, outPt 42 38 45, [.one (.ptr 0 0)], []⟩
def st69 : St := startSt [.one (.ptr 0 0), .one (.ptr 4 0)] [(0, ptCells 0), (1, a4), (2, a4), (3, a4), (4, ptCells 4), (5, limbs 0), (6, limbs 1), (7, limbs 2)] 3 8
theorem run69 : briefR (tabX true pointPrims []) Try.f69 [] (runF (tabX true pointPrims []) (fixD 191 8 [1, 2, 3] sp0 []) 2000 Try.f69 st69) = some b69 := by kernel_rfl

theorem tabP_ok : (tabX true pointPrims []).Ok Try.prog := tabX_ok pointPrims_ok xnil_ok

/-- The places of a point. -/
def ptPlace (p : PtR) : Nat → Nat × Nat
  | 0 => (p.b, p.o)
  | 1 => (p.bx, p.ox)
  | 2 => (p.b2, p.oy)
  | _ => (p.bz, p.oz)
theorem ptPlace_lt {p : PtR} {w : World} (hc : p.cells w) (h1 : p.bx < w.heap.size) (h2 : p.b2 < w.heap.size) (h3 : p.bz < w.heap.size) (k : Nat) : (ptPlace p k).1 < w.heap.size := by
  unfold ptPlace
  split
  · exact World.block_lt_of_cell? w _ hc.1
  · exact h1
  · exact h2
  · exact h3
theorem val_lt {p : PtR} {w : World} {x y z : Nat} (h : p.val w x y z) : p.bx < w.heap.size ∧ p.b2 < w.heap.size ∧ p.bz < w.heap.size :=
  ⟨World.block_lt_of_cell? w _ (h.1 0 (by decide)), World.block_lt_of_cell? w _ (h.2.1 0 (by decide)), World.block_lt_of_cell? w _ (h.2.2.1 0 (by decide))⟩
theorem sp0_apart {p : PtR} (h : p.apart) {β : Places} (h0 : β 0 = (p.b, p.o)) (h1 : β 1 = (p.bx, p.ox)) (h2 : β 2 = (p.b2, p.oy)) (h3 : β 3 = (p.bz, p.oz)) {r q : Nat} (hs : (sp0.contains (r, q) || sp0.contains (q, r)) = true) : (β r).1 ≠ (β q).1 := by
  obtain ⟨a1, a2, a3, a4, a5, a6⟩ := h
  have key : ∀ r q, sp0.contains (r, q) = true → (β r).1 ≠ (β q).1 := by
    intro r q hs
    have hm := List.elem_iff.1 hs
    simp only [sp0, List.mem_cons, List.not_mem_nil, or_false, Prod.mk.injEq] at hm
    rcases hm with ⟨rfl, rfl⟩ | ⟨rfl, rfl⟩ | ⟨rfl, rfl⟩ | ⟨rfl, rfl⟩ | ⟨rfl, rfl⟩ | ⟨rfl, rfl⟩ <;> simp only [h0, h1, h2, h3] <;> assumption
  rw [Bool.or_eq_true] at hs
  rcases hs with hs | hs
  · exact key r q hs
  · exact fun e => key q r hs e.symm

theorem meets74 (w : World) (p p1 p2 : PtR) (x1 y1 z1 x2 y2 z2 : Nat) (hc : p.cells w) (hrm : p.room w) (hap : p.apart) (hc1 : p1.cells w) (hv1 : p1.val w x1 y1 z1) (hc2 : p2.cells w) (hv2 : p2.val w x2 y2 z2) :
    Meets Try.prog 74 #[ptrTo p.b p.o, ptrTo p1.b p1.o, ptrTo p2.b p2.o] w fun v w' => v = ptrTo p.b p.o ∧
      Below w.heap.size (p.set w (sxN pq bq x1 y1 z1 x2 y2 z2) (syN pq bq x1 y1 z1 x2 y2 z2) (szN pq bq x1 y1 z1 x2 y2 z2)) w' := by
  refine meets_of_calls Try.func74 (by kernel_rfl) (by kernel_rfl) ?_
  let β : Places := fun r => if r < 4 then ptPlace p r else if r < 8 then ptPlace p1 (r - 4) else ptPlace p2 (r - 8)
  let s0 : Nums := fun i => match i with | 0 => x1 | 1 => y1 | 2 => z1 | 3 => x2 | 4 => y2 | _ => z2
  obtain ⟨⟨r1, r2, r3⟩, l1, l2, l3⟩ := hrm
  obtain ⟨m1, m2, m3⟩ := val_lt hv1
  obtain ⟨n1, n2, n3⟩ := val_lt hv2
  obtain ⟨v1, v2, v3, v4, v5, v6⟩ := hv1
  obtain ⟨u1, u2, u3, u4, u5, u6⟩ := hv2
  refine calls_briefR (F := fixD 260 12 [1, 2, 3] sp0 []) tabP_ok run74 Try.func74 Try.ntmps74 rfl (by decide +kernel) (by decide +kernel) (by decide +kernel) (show 3 ≤ 260 by decide) (show 3 < 4095 by decide) s0 β
    (vals := [ptrTo p.b p.o, ptrTo p1.b p1.o, ptrTo p2.b p2.o]) (fun s hs => ⟨⟨rfl, show 0 < 12 by decide⟩, ⟨rfl, show 4 < 12 by decide⟩, ⟨rfl, show 8 < 12 by decide⟩, trivial⟩) ?_ ?_ ?_ ?_ (fun _ _ _ i b h => by cases h) ?_
  · intro s hs
    have s0' := hs 0 (by decide)
    have s1' := hs 1 (by decide)
    have s2' := hs 2 (by decide)
    have s3' := hs 3 (by decide)
    have s4' := hs 4 (by decide)
    have s5' := hs 5 (by decide)
    exact ⟨by decide, pt_row (p := p) rfl rfl rfl rfl hc (by decide), by decide, a4_row rfl r1, by decide, a4_row rfl r2, by decide, a4_row rfl r3,
      by decide, pt_row (p := p1) rfl rfl rfl rfl hc1 (by decide), by decide, limb_row rfl v1 s0' v4, by decide, limb_row rfl v2 s1' v5, by decide, limb_row rfl v3 s2' v6,
      by decide, pt_row (p := p2) rfl rfl rfl rfl hc2 (by decide), by decide, limb_row rfl u1 s3' u4, by decide, limb_row rfl u2 s4' u5, by decide, limb_row rfl u3 s5' u6, trivial⟩
  · intro r l hl hr
    have hm := List.elem_iff.1 hr
    simp only [List.mem_cons, List.not_mem_nil, or_false] at hm
    rcases hm with rfl | rfl | rfl <;> cases hl
    · exact any4_frz rfl r1
    · exact any4_frz rfl r2
    · exact any4_frz rfl r3
  · intro r _
    show (if r < 4 then ptPlace p r else if r < 8 then ptPlace p1 (r - 4) else ptPlace p2 (r - 8)).1 < _
    split
    · exact ptPlace_lt hc l1 l2 l3 _
    · split
      · exact ptPlace_lt hc1 m1 m2 m3 _
      · exact ptPlace_lt hc2 n1 n2 n3 _
  · intro r q _ _ hs
    exact sp0_apart hap (β := β) rfl rfl rfl rfl hs
  · intro s hs hH st' β' a' w' v hv _ hag hr hbe
    have s0' : s 0 = x1 := hs 0 (by decide)
    have s1' : s 1 = y1 := hs 1 (by decide)
    have s2' : s 2 = z1 := hs 2 (by decide)
    have s3' : s 3 = x2 := hs 3 (by decide)
    have s4' : s 4 = y2 := hs 4 (by decide)
    have s5' : s 5 = z2 := hs 5 (by decide)
    have hin : ∀ i, i < 6 → s i < pq := by
      intro i hi
      have : i = 0 ∨ i = 1 ∨ i = 2 ∨ i = 3 ∨ i = 4 ∨ i = 5 := by omega
      rcases this with rfl | rfl | rfl | rfl | rfl | rfl
      · rw [s0']; exact v4
      · rw [s1']; exact v5
      · rw [s2']; exact v6
      · rw [s3']; exact u4
      · rw [s4']; exact u5
      · rw [s5']; exact u6
    obtain ⟨f1, f2, f3⟩ := law74 hH hin
    rw [s0', s1', s2', s3', s4', s5'] at f1 f2 f3
    have lt := lt74 hH
    have g1 := sx_eq x1 y1 z1 x2 y2 z2 lt.1 f1
    have g2 := sy_eq x1 y1 z1 x2 y2 z2 lt.2.1 f2
    have g3 := sz_eq x1 y1 z1 x2 y2 z2 lt.2.2 f3
    have hb0 : β' 0 = (p.b, p.o) := hag 0 (by decide)
    have hv' : v = .pointer (some (at_ β' 0 0)) := hv.1
    refine ⟨_, rfl, by rw [hv', at_, hb0]; rfl, ?_⟩
    have e := outPt_apply (s := s) (w := w) (i := 55) (j := 53) (k := 58) (p := p) (β := β') (hag 1 (by decide)) (hag 2 (by decide)) (hag 3 (by decide))
    have hbe' : Below w.heap.size (applyOut s β' w (outPt 55 53 58)) w' := hbe
    rw [e, g1, g2, g3] at hbe'
    exact hbe'

theorem meets69 (w : World) (p p1 : PtR) (x1 y1 z1 : Nat) (hc : p.cells w) (hrm : p.room w) (hap : p.apart) (hc1 : p1.cells w) (hv1 : p1.val w x1 y1 z1) :
    Meets Try.prog 69 #[ptrTo p.b p.o, ptrTo p1.b p1.o] w fun v w' => v = ptrTo p.b p.o ∧
      Below w.heap.size (p.set w (sxN pq bq x1 y1 z1 x1 y1 z1) (syN pq bq x1 y1 z1 x1 y1 z1) (8 * (y1 * y1 * y1) * z1 % pq)) w' := by
  refine meets_of_calls Try.func69 (by kernel_rfl) (by kernel_rfl) ?_
  let β : Places := fun r => if r < 4 then ptPlace p r else ptPlace p1 (r - 4)
  let s0 : Nums := fun i => match i with | 0 => x1 | 1 => y1 | _ => z1
  obtain ⟨⟨r1, r2, r3⟩, l1, l2, l3⟩ := hrm
  obtain ⟨m1, m2, m3⟩ := val_lt hv1
  obtain ⟨v1, v2, v3, v4, v5, v6⟩ := hv1
  refine calls_briefR (F := fixD 191 8 [1, 2, 3] sp0 []) tabP_ok run69 Try.func69 Try.ntmps69 rfl (by decide +kernel) (by decide +kernel) (by decide +kernel) (show 2 ≤ 191 by decide) (show 2 < 4095 by decide) s0 β
    (vals := [ptrTo p.b p.o, ptrTo p1.b p1.o]) (fun s hs => ⟨⟨rfl, show 0 < 8 by decide⟩, ⟨rfl, show 4 < 8 by decide⟩, trivial⟩) ?_ ?_ ?_ ?_ (fun _ _ _ i b h => by cases h) ?_
  · intro s hs
    have s0' := hs 0 (by decide)
    have s1' := hs 1 (by decide)
    have s2' := hs 2 (by decide)
    exact ⟨by decide, pt_row (p := p) rfl rfl rfl rfl hc (by decide), by decide, a4_row rfl r1, by decide, a4_row rfl r2, by decide, a4_row rfl r3,
      by decide, pt_row (p := p1) rfl rfl rfl rfl hc1 (by decide), by decide, limb_row rfl v1 s0' v4, by decide, limb_row rfl v2 s1' v5, by decide, limb_row rfl v3 s2' v6, trivial⟩
  · intro r l hl hr
    have hm := List.elem_iff.1 hr
    simp only [List.mem_cons, List.not_mem_nil, or_false] at hm
    rcases hm with rfl | rfl | rfl <;> cases hl
    · exact any4_frz rfl r1
    · exact any4_frz rfl r2
    · exact any4_frz rfl r3
  · intro r _
    show (if r < 4 then ptPlace p r else ptPlace p1 (r - 4)).1 < _
    split
    · exact ptPlace_lt hc l1 l2 l3 _
    · exact ptPlace_lt hc1 m1 m2 m3 _
  · intro r q _ _ hs
    exact sp0_apart hap (β := β) rfl rfl rfl rfl hs
  · intro s hs hH st' β' a' w' v hv _ hag hr hbe
    have s0' : s 0 = x1 := hs 0 (by decide)
    have s1' : s 1 = y1 := hs 1 (by decide)
    have s2' : s 2 = z1 := hs 2 (by decide)
    have hin : ∀ i, i < 3 → s i < pq := by
      intro i hi
      have : i = 0 ∨ i = 1 ∨ i = 2 := by omega
      rcases this with rfl | rfl | rfl
      · rw [s0']; exact v4
      · rw [s1']; exact v5
      · rw [s2']; exact v6
    obtain ⟨f1, f2, f3⟩ := law69 hH hin
    rw [s0', s1', s2'] at f1 f2
    rw [s1', s2'] at f3
    have lt := lt69 hH
    have g1 := sx_eq x1 y1 z1 x1 y1 z1 lt.1 f1
    have g2 := sy_eq x1 y1 z1 x1 y1 z1 lt.2.1 f2
    have g3 := dz_eq y1 z1 lt.2.2 f3
    have hb0 : β' 0 = (p.b, p.o) := hag 0 (by decide)
    have hv' : v = .pointer (some (at_ β' 0 0)) := hv.1
    refine ⟨_, rfl, by rw [hv', at_, hb0]; rfl, ?_⟩
    have e := outPt_apply (s := s) (w := w) (i := 42) (j := 38) (k := 45) (p := p) (β := β') (hag 1 (by decide)) (hag 2 (by decide)) (hag 3 (by decide))
    have hbe' : Below w.heap.size (applyOut s β' w (outPt 42 38 45)) w' := hbe
    rw [e, g1, g2, g3] at hbe'
    exact hbe'
end P224
