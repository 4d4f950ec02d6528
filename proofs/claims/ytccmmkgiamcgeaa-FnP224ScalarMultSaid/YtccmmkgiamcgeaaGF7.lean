/- The methods of elements: product, square, sum, difference, set, one, select, inverse. (The list of Invert's run is printed by a program of my own.) -/
import Derived.Test.YtccmmkgiamcgeaaGF5
set_option linter.all false
namespace P224
open Go Go.RowKit Go.Proofs
set_option maxRecDepth 100000

def st3e : St := startSt [.one (.ptr 0 0), .one (.ptr 1 0), .one (.ptr 2 0)] [(0, any4), (1, limbs 0), (2, limbs 1)] 2 3
def st2e : St := startSt [.one (.ptr 0 0), .one (.ptr 1 0)] [(0, any4), (1, limbs 0)] 1 2
def st2i : St := startSt [.one (.ptr 0 0), .one (.ptr 1 0)] [(0, limbs 1), (1, limbs 0)] 2 2
def stse : St := startSt [.one (.ptr 0 0), .one (.ptr 1 0), .one (.ptr 2 0), .one (.bit .i64 2)] [(0, any4), (1, limbs 0), (2, limbs 1)] 3 3
def outL (i : Nat) : List (Nat × Nat × A0) := [(0, 3, .limb i 3), (0, 2, .limb i 2), (0, 1, .limb i 1), (0, 0, .limb i 0)]

theorem limbs_row {s : Nums} {β : Places} {n r : Nat} {w : World} {b o i : Nat} (hβ : β r = (b, o)) (h : ElemAt w b o (s i)) (hs : s i < pq) : RowOk s β n r w 0 (limbs i) := by
  have key : ∀ k, k < 4 → ∃ v, w.cell? (at_ β r k) = some v ∧ (A0.limb i k).rep s β n v := fun k hk => ⟨_, by rw [at_, hβ]; exact h k hk, rfl, hs⟩
  exact ⟨key 0 (by decide), key 1 (by decide), key 2 (by decide), key 3 (by decide), trivial⟩
theorem limbs_frz {i : Nat} {β : Places} {r : Nat} {w : World} {b o : Nat} (hβ : β r = (b, o)) (h : RoomAt w b o) : ∀ j, j < (limbs i).length → w.frozen? (at_ β r j) = false := fun j hj => by
  rw [at_, hβ]
  exact (h j hj).2
theorem outL_apply {s : Nums} {β : Places} {w : World} {i x o : Nat} (hβ : β 0 = (x, o)) : applyOut s β w (outL i) = w.setCells x o (words (s i)) := by
  have e : applyOut s β w (outL i) = (((w.setCell (at_ β 0 0) (.int .u64 (lim 0 (s i) : Int))).setCell (at_ β 0 1) (.int .u64 (lim 1 (s i) : Int))).setCell (at_ β 0 2) (.int .u64 (lim 2 (s i) : Int))).setCell (at_ β 0 3) (.int .u64 (lim 3 (s i) : Int)) := rfl
  rw [e]
  simp only [at_, hβ]
  rfl

theorem meets2_elems {T : Tab} (hT : T.Ok Try.prog) {g : FuncId} {fn : Func} {nt fuel t : Nat} {e : Ex} {f : Nat → Nat → Nat}
    (hb : brief [t] (runF T (regFix nt 3 1) fuel fn st3e) = some (.ret, 3, [e], outL 2, [some (.one (.ptr 0 0))])) (hf : Try.prog.funcs[g]? = some fn) (hnt : fn.ntmps = nt) (hres : fn.results = #[.tmp t])
    (hbody : fn.body.isNone = false) (hname : (fn.name == "runtime.NumGoroutine") = false) (hsc : inScope 3 [e] = true) (hn3 : 3 ≤ nt)
    (law : ∀ s : Nums, e.val s = f (s 0) (s 1)) : Meets2 Try.prog g false f := by
  intro w b o b1 o1 b2 o2 x y hlt hroom hx hy hxl hyl
  refine meets_of_calls hf hbody hname ?_
  let β : Places := fun r => if r = 0 then (b, o) else if r = 1 then (b1, o1) else (b2, o2)
  have in1 : ∀ s : Nums, (∀ i, i < 2 → s i = if i = 0 then x else y) → s 0 = x ∧ s 1 = y := fun s hs => ⟨by rw [hs _ (by omega), if_pos rfl], by rw [hs _ (by omega), if_neg (by omega)]⟩
  refine calls_brief hT hb hf hnt (res := some t) ⟨.inr rfl, hres⟩ hsc (by simp) rfl hn3 (by decide) (fun i => if i = 0 then x else y) β
    (vals := [ptrTo b o, ptrTo b1 o1, ptrTo b2 o2]) (fun s hs => ⟨⟨rfl, lt03⟩, ⟨rfl, lt13⟩, ⟨rfl, lt23⟩, trivial⟩)
    (fun s hs => ⟨lt03, any4_row rfl hroom, lt13, limbs_row rfl (by rw [(in1 s hs).1]; exact hx) (by rw [(in1 s hs).1]; exact hxl), lt23, limbs_row rfl (by rw [(in1 s hs).2]; exact hy) (by rw [(in1 s hs).2]; exact hyl), trivial⟩) ?_ ?_ (fun r q _ _ h => by cases h) (fun _ _ _ i b h => by cases h) ?_
  · intro r l hl hr
    have h0 : r < 1 := of_decide_eq_true hr
    have : r = 0 := by omega
    subst this
    cases hl
    exact any4_frz rfl hroom
  · intro r _
    show (if r = 0 then (b, o) else if r = 1 then (b1, o1) else (b2, o2)).1 < _
    split
    · exact hlt
    · split
      · exact World.block_lt_of_cell? w _ (hx 0 (by decide))
      · exact World.block_lt_of_cell? w _ (hy 0 (by decide))
  · intro s hs hH st' β' a' w' hts hag hr hbe
    obtain ⟨i0, i1⟩ := in1 s hs
    obtain ⟨hv, _⟩ := hr.tm t _ (map_get hts 0 t _ rfl rfl)
    have hb0 : β' 0 = (b, o) := hag 0 lt03
    have e2 : s 2 = f x y := by
      have : s 2 = e.val s := hH.1
      rw [this, law, i0, i1]
    refine ⟨_, rfl, fun _ => ?_, ?_⟩
    · show a'.tmps.getD t undef = _
      rw [hv, at_, hb0]
      rfl
    · rw [outL_apply hb0, e2] at hbe
      exact hbe

theorem meets1_elems {T : Tab} (hT : T.Ok Try.prog) {g : FuncId} {fn : Func} {nt fuel t nx i : Nat} {l : List Ex} {f : Nat → Nat}
    (hb : brief [t] (runF T (regFix nt 2 1) fuel fn st2e) = some (.ret, nx, l, outL i, [some (.one (.ptr 0 0))])) (hf : Try.prog.funcs[g]? = some fn) (hnt : fn.ntmps = nt) (hres : fn.results = #[.tmp t])
    (hbody : fn.body.isNone = false) (hname : (fn.name == "runtime.NumGoroutine") = false) (hsc : inScope nx l = true) (hle : l.length + 1 = nx) (hn3 : 2 ≤ nt)
    (law : ∀ s : Nums, s 0 < pq → Holds s nx l → s i = f (s 0)) : Meets1 Try.prog g false f := by
  intro w b o b1 o1 x hlt hroom hx hxl
  refine meets_of_calls hf hbody hname ?_
  let β : Places := fun r => if r = 0 then (b, o) else (b1, o1)
  have in1 : ∀ s : Nums, (∀ i, i < 1 → s i = x) → s 0 = x := fun s hs => hs 0 (by decide)
  refine calls_brief hT hb hf hnt (res := some t) ⟨.inr rfl, hres⟩ hsc (by omega) (by omega) hn3 (by decide) (fun _ => x) β
    (vals := [ptrTo b o, ptrTo b1 o1]) (fun s hs => ⟨⟨rfl, lt02⟩, ⟨rfl, lt12⟩, trivial⟩)
    (fun s hs => ⟨lt02, any4_row rfl hroom, lt12, limbs_row rfl (by rw [in1 s hs]; exact hx) (by rw [in1 s hs]; exact hxl), trivial⟩) ?_ ?_ (fun r q _ _ h => by cases h) (fun _ _ _ i b h => by cases h) ?_
  · intro r l hl hr
    have h0 : r < 1 := of_decide_eq_true hr
    have : r = 0 := by omega
    subst this
    cases hl
    exact any4_frz rfl hroom
  · intro r _
    show (if r = 0 then (b, o) else (b1, o1)).1 < _
    split
    · exact hlt
    · exact World.block_lt_of_cell? w _ (hx 0 (by decide))
  · intro s hs hH st' β' a' w' hts hag hr hbe
    have i0 := in1 s hs
    obtain ⟨hv, _⟩ := hr.tm t _ (map_get hts 0 t _ rfl rfl)
    have hb0 : β' 0 = (b, o) := hag 0 lt02
    have e2 : s i = f x := by rw [law s (by rw [i0]; exact hxl) hH, i0]
    refine ⟨_, rfl, fun _ => ?_, ?_⟩
    · show a'.tmps.getD t undef = _
      rw [hv, at_, hb0]
      rfl
    · rw [outL_apply hb0, e2] at hbe
      exact hbe

theorem run89 : brief [6] (runF (tabOf true fiatPrims) (regFix 18 3 1) 2000 Try.f89 st3e) = some (.ret, 3, [.fmul (.v 0) (.v 1)], outL 2, [some (.one (.ptr 0 0))]) := by kernel_rfl
theorem meets89 : PrimOk Try.prog 89 (.fmul false) := meets2_elems (tabE_ok true) run89 Try.func89 Try.ntmps89 Try.results89 (by kernel_rfl) (by kernel_rfl) (by decide) (by decide) fun _ => rfl
theorem run90 : brief [6] (runF (tabOf true fiatPrims) (regFix 18 3 1) 2000 Try.f90 st3e) = some (.ret, 3, [.fadd (.v 0) (.v 1)], outL 2, [some (.one (.ptr 0 0))]) := by kernel_rfl
theorem meets90 : PrimOk Try.prog 90 (.fadd false) := meets2_elems (tabE_ok true) run90 Try.func90 Try.ntmps90 Try.results90 (by kernel_rfl) (by kernel_rfl) (by decide) (by decide) fun _ => rfl
theorem run92 : brief [6] (runF (tabOf true fiatPrims) (regFix 18 3 1) 2000 Try.f92 st3e) = some (.ret, 3, [.fsub (.v 0) (.v 1)], outL 2, [some (.one (.ptr 0 0))]) := by kernel_rfl
theorem meets92 : PrimOk Try.prog 92 (.fsub false) := meets2_elems (tabE_ok true) run92 Try.func92 Try.ntmps92 Try.results92 (by kernel_rfl) (by kernel_rfl) (by decide) (by decide) fun _ => rfl
theorem run88 : brief [4] (runF (tabOf true fiatPrims) (regFix 13 2 1) 2000 Try.f88 st2e) = some (.ret, 2, [.fmul (.v 0) (.v 0)], outL 1, [some (.one (.ptr 0 0))]) := by kernel_rfl
theorem meets88 : PrimOk Try.prog 88 (.fsq false) := meets1_elems (tabE_ok true) run88 Try.func88 Try.ntmps88 Try.results88 (by kernel_rfl) (by kernel_rfl) (by decide) (by decide) (by decide) fun _ _ h => h.1
theorem run93 : brief [4] (runF (tabOf true fiatPrims) (regFix 13 2 1) 2000 Try.f93 st2e) = some (.ret, 1, [], outL 0, [some (.one (.ptr 0 0))]) := by kernel_rfl
theorem meets93 : PrimOk Try.prog 93 .fset := meets1_elems (tabE_ok true) run93 Try.func93 Try.ntmps93 Try.results93 (by kernel_rfl) (by kernel_rfl) (by decide) (by decide) (by decide) fun _ _ _ => rfl

theorem run77 : brief [2] (runF (tabOf true fiatPrims) (regFix 8 1 1) 2000 Try.f77 st1) = some (.ret, 1, [.fcst 1], outL 0, [some (.one (.ptr 0 0))]) := by kernel_rfl
theorem meets77 : PrimOk Try.prog 77 (.fone false) := by
  unfold PrimOk
  intro w b o hlt hroom
  refine meets_of_calls Try.func77 (by kernel_rfl) (by kernel_rfl) ?_
  refine calls_brief (tabE_ok true) run77 Try.func77 Try.ntmps77 (res := some 2) ⟨.inr rfl, Try.results77⟩ (by decide) (by decide) (by decide) (by decide) (by decide) (fun _ => 0) (fun _ => (b, o))
    (vals := [ptrTo b o]) (fun s hs => ⟨⟨rfl, lt01⟩, trivial⟩) (fun s hs => ⟨lt01, any4_row rfl hroom, trivial⟩) ?_ (fun r _ => hlt) (fun r q _ _ h => by cases h) (fun _ _ _ i b h => by cases h) ?_
  · intro r l hl hr
    have h0 : r < 1 := of_decide_eq_true hr
    have : r = 0 := by omega
    subst this
    cases hl
    exact any4_frz rfl hroom
  · intro s hs hH st' β' a' w' hts hag hr hbe
    obtain ⟨hv, _⟩ := hr.tm 2 _ (map_get hts 0 2 _ rfl rfl)
    have hb0 : β' 0 = (b, o) := hag 0 lt01
    have e2 : s 0 = 1 % pq := hH.1
    refine ⟨_, rfl, fun _ => ?_, ?_⟩
    · show a'.tmps.getD 2 undef = _
      rw [hv, at_, hb0]
      rfl
    · rw [outL_apply hb0, e2] at hbe
      exact hbe

theorem run105 : brief [8] (runF (tabOf true fiatPrims) (regFix 22 3 1) 2000 Try.f105 stse) = some (.ret, 4, [.sel (.v 2) (.v 1) (.v 0)], outL 3, [some (.one (.ptr 0 0))]) := by kernel_rfl
theorem meets105 : PrimOk Try.prog 105 .fsel := by
  unfold PrimOk
  intro w b o b1 o1 b2 o2 x y c hlt hroom hx hy hxl hyl hc
  refine meets_of_calls Try.func105 (by kernel_rfl) (by kernel_rfl) ?_
  let β : Places := fun r => if r = 0 then (b, o) else if r = 1 then (b1, o1) else (b2, o2)
  have in1 : ∀ s : Nums, (∀ i, i < 3 → s i = if i = 0 then x else if i = 1 then y else c) → s 0 = x ∧ s 1 = y ∧ s 2 = c := fun s hs => ⟨by rw [hs _ (by omega), if_pos rfl], by rw [hs _ (by omega), if_neg (by omega), if_pos rfl], by rw [hs _ (by omega), if_neg (by omega), if_neg (by omega)]⟩
  refine calls_brief (tabE_ok true) run105 Try.func105 Try.ntmps105 (res := some 8) ⟨.inr rfl, Try.results105⟩ (by decide) (by decide) (by decide) (by decide) (by decide) (fun i => if i = 0 then x else if i = 1 then y else c) β
    (vals := [ptrTo b o, ptrTo b1 o1, ptrTo b2 o2, .int .i64 (c : Int)]) (fun s hs => ⟨⟨rfl, lt03⟩, ⟨rfl, lt13⟩, ⟨rfl, lt23⟩, ⟨by rw [(in1 s hs).2.2], by rw [(in1 s hs).2.2]; exact hc⟩, trivial⟩)
    (fun s hs => ⟨lt03, any4_row rfl hroom, lt13, limbs_row rfl (by rw [(in1 s hs).1]; exact hx) (by rw [(in1 s hs).1]; exact hxl), lt23, limbs_row rfl (by rw [(in1 s hs).2.1]; exact hy) (by rw [(in1 s hs).2.1]; exact hyl), trivial⟩) ?_ ?_ (fun r q _ _ h => by cases h) (fun _ _ _ i b h => by cases h) ?_
  · intro r l hl hr
    have h0 : r < 1 := of_decide_eq_true hr
    have : r = 0 := by omega
    subst this
    cases hl
    exact any4_frz rfl hroom
  · intro r _
    show (if r = 0 then (b, o) else if r = 1 then (b1, o1) else (b2, o2)).1 < _
    split
    · exact hlt
    · split
      · exact World.block_lt_of_cell? w _ (hx 0 (by decide))
      · exact World.block_lt_of_cell? w _ (hy 0 (by decide))
  · intro s hs hH st' β' a' w' hts hag hr hbe
    obtain ⟨i0, i1, i2⟩ := in1 s hs
    obtain ⟨hv, _⟩ := hr.tm 8 _ (map_get hts 0 8 _ rfl rfl)
    have hb0 : β' 0 = (b, o) := hag 0 lt03
    have e2 : s 3 = if c = 0 then y else x := by
      have : s 3 = if s 2 = 0 then s 1 else s 0 := hH.1
      rw [this, i0, i1, i2]
    refine ⟨_, rfl, ?_, ?_⟩
    · show a'.tmps.getD 8 undef = _
      rw [hv, at_, hb0]
      rfl
    · rw [outL_apply hb0, e2] at hbe
      exact hbe

def elemPrims0 : List (Nat × Prim) := [(89, .fmul false), (88, .fsq false), (90, .fadd false), (92, .fsub false), (93, .fset), (77, .fone false), (105, .fsel)]
theorem tabE0_ok (b : Bool) : (tabOf b elemPrims0).Ok Try.prog := tab_ok _ _ fun f p h => by
  simp only [elemPrims0, List.mem_cons, List.not_mem_nil, or_false, Prod.mk.injEq] at h
  rcases h with h | h | h | h | h | h | h <;> obtain ⟨rfl, rfl⟩ := h
  · exact meets89
  · exact meets88
  · exact meets90
  · exact meets92
  · exact meets93
  · exact meets77
  · exact meets105

/-! ### the inverse: powers of one number -/
def expoAt (M : List (Option Nat)) (i : Nat) : Option Nat := if i < M.length then (M[M.length - 1 - i]?).bind id else none
def expoStep (M : List (Option Nat)) : Ex → Option Nat
  | .fmul (.v i) (.v j) => match expoAt M i, expoAt M j with
    | some a, some b => some (a + b)
    | _, _ => none
  | _ => none
/-- The exponents of the numbers of a list of products, newest first; the oldest ones are given. -/
def expos (base : List (Option Nat)) : List Ex → List (Option Nat)
  | [] => base
  | e :: l => expoStep (expos base l) e :: expos base l
theorem expos_length (base : List (Option Nat)) : ∀ l, (expos base l).length = l.length + base.length
  | [] => by simp [expos]
  | e :: l => by simp [expos, expos_length base l]; omega
theorem expoAt_lt {M : List (Option Nat)} {i e : Nat} (h : expoAt M i = some e) : i < M.length := by
  unfold expoAt at h
  split at h
  · assumption
  · cases h
theorem expos_spec {s : Nums} {x : Nat} {base : List (Option Nat)} (hbase : ∀ i e, expoAt base i = some e → s i = x ^ e % pq) :
    ∀ (l : List Ex), Holds s (l.length + base.length) l → ∀ i e, expoAt (expos base l) i = some e → s i = x ^ e % pq
  | [], _, i, e, he => hbase i e he
  | y :: l, h, i, e, he => by
    obtain ⟨h1, h2⟩ := h
    have hn : (y :: l).length + base.length - 1 = l.length + base.length := by simp only [List.length_cons]; omega
    rw [hn] at h1 h2
    have hi := expoAt_lt he
    rw [expos_length] at hi
    simp only [List.length_cons] at hi
    by_cases hlast : i = l.length + base.length
    · subst hlast
      have e1 : expoAt (expos base (y :: l)) (l.length + base.length) = expoStep (expos base l) y := by
        unfold expoAt
        rw [expos_length, if_pos (by simp only [List.length_cons]; omega), show (y :: l).length + base.length - 1 - (l.length + base.length) = 0 by simp only [List.length_cons]; omega]
        rfl
      rw [e1] at he
      clear e1 hi
      unfold expoStep at he
      split at he
      · rename_i i' j'
        split at he
        · rename_i a b ha hb
          cases he
          rw [h1]
          show s i' * s j' % pq = _
          rw [expos_spec hbase l h2 i' a ha, expos_spec hbase l h2 j' b hb, ← Nat.mul_mod, Nat.pow_add]
        · cases he
      · cases he
    · refine expos_spec hbase l h2 i e ?_
      rw [← he]
      unfold expoAt
      rw [expos_length, expos_length, if_pos (by omega), if_pos (by simp only [List.length_cons]; omega), show (y :: l).length + base.length - 1 - i = (l.length + base.length - 1 - i) + 1 by simp only [List.length_cons]; omega]
      rfl

def ex99 : List Ex := [
.fmul (.v 109) (.v 238),
.fmul (.v 237) (.v 237),
.fmul (.v 236) (.v 236),
.fmul (.v 235) (.v 235),
.fmul (.v 234) (.v 234),
.fmul (.v 233) (.v 233),
.fmul (.v 232) (.v 232),
.fmul (.v 231) (.v 231),
.fmul (.v 230) (.v 230),
.fmul (.v 229) (.v 229),
.fmul (.v 228) (.v 228),
.fmul (.v 227) (.v 227),
.fmul (.v 226) (.v 226),
.fmul (.v 225) (.v 225),
.fmul (.v 224) (.v 224),
.fmul (.v 223) (.v 223),
.fmul (.v 222) (.v 222),
.fmul (.v 221) (.v 221),
.fmul (.v 220) (.v 220),
.fmul (.v 219) (.v 219),
.fmul (.v 218) (.v 218),
.fmul (.v 217) (.v 217),
.fmul (.v 216) (.v 216),
.fmul (.v 215) (.v 215),
.fmul (.v 214) (.v 214),
.fmul (.v 213) (.v 213),
.fmul (.v 212) (.v 212),
.fmul (.v 211) (.v 211),
.fmul (.v 210) (.v 210),
.fmul (.v 209) (.v 209),
.fmul (.v 208) (.v 208),
.fmul (.v 207) (.v 207),
.fmul (.v 206) (.v 206),
.fmul (.v 205) (.v 205),
.fmul (.v 204) (.v 204),
.fmul (.v 203) (.v 203),
.fmul (.v 202) (.v 202),
.fmul (.v 201) (.v 201),
.fmul (.v 200) (.v 200),
.fmul (.v 199) (.v 199),
.fmul (.v 198) (.v 198),
.fmul (.v 197) (.v 197),
.fmul (.v 196) (.v 196),
.fmul (.v 195) (.v 195),
.fmul (.v 194) (.v 194),
.fmul (.v 193) (.v 193),
.fmul (.v 192) (.v 192),
.fmul (.v 191) (.v 191),
.fmul (.v 190) (.v 190),
.fmul (.v 189) (.v 189),
.fmul (.v 188) (.v 188),
.fmul (.v 187) (.v 187),
.fmul (.v 186) (.v 186),
.fmul (.v 185) (.v 185),
.fmul (.v 184) (.v 184),
.fmul (.v 183) (.v 183),
.fmul (.v 182) (.v 182),
.fmul (.v 181) (.v 181),
.fmul (.v 180) (.v 180),
.fmul (.v 179) (.v 179),
.fmul (.v 178) (.v 178),
.fmul (.v 177) (.v 177),
.fmul (.v 176) (.v 176),
.fmul (.v 175) (.v 175),
.fmul (.v 174) (.v 174),
.fmul (.v 173) (.v 173),
.fmul (.v 172) (.v 172),
.fmul (.v 171) (.v 171),
.fmul (.v 170) (.v 170),
.fmul (.v 169) (.v 169),
.fmul (.v 168) (.v 168),
.fmul (.v 167) (.v 167),
.fmul (.v 166) (.v 166),
.fmul (.v 165) (.v 165),
.fmul (.v 164) (.v 164),
.fmul (.v 163) (.v 163),
.fmul (.v 162) (.v 162),
.fmul (.v 161) (.v 161),
.fmul (.v 160) (.v 160),
.fmul (.v 159) (.v 159),
.fmul (.v 158) (.v 158),
.fmul (.v 157) (.v 157),
.fmul (.v 156) (.v 156),
.fmul (.v 155) (.v 155),
.fmul (.v 154) (.v 154),
.fmul (.v 153) (.v 153),
.fmul (.v 152) (.v 152),
.fmul (.v 151) (.v 151),
.fmul (.v 150) (.v 150),
.fmul (.v 149) (.v 149),
.fmul (.v 148) (.v 148),
.fmul (.v 147) (.v 147),
.fmul (.v 146) (.v 146),
.fmul (.v 145) (.v 145),
.fmul (.v 144) (.v 144),
.fmul (.v 143) (.v 143),
.fmul (.v 142) (.v 142),
.fmul (.v 141) (.v 141),
.fmul (.v 42) (.v 140),
.fmul (.v 139) (.v 139),
.fmul (.v 138) (.v 138),
.fmul (.v 137) (.v 137),
.fmul (.v 136) (.v 136),
.fmul (.v 135) (.v 135),
.fmul (.v 134) (.v 134),
.fmul (.v 133) (.v 133),
.fmul (.v 132) (.v 132),
.fmul (.v 131) (.v 131),
.fmul (.v 130) (.v 130),
.fmul (.v 129) (.v 129),
.fmul (.v 128) (.v 128),
.fmul (.v 127) (.v 127),
.fmul (.v 126) (.v 126),
.fmul (.v 125) (.v 125),
.fmul (.v 124) (.v 124),
.fmul (.v 123) (.v 123),
.fmul (.v 122) (.v 122),
.fmul (.v 121) (.v 121),
.fmul (.v 120) (.v 120),
.fmul (.v 119) (.v 119),
.fmul (.v 118) (.v 118),
.fmul (.v 117) (.v 117),
.fmul (.v 116) (.v 116),
.fmul (.v 115) (.v 115),
.fmul (.v 114) (.v 114),
.fmul (.v 113) (.v 113),
.fmul (.v 112) (.v 112),
.fmul (.v 111) (.v 111),
.fmul (.v 110) (.v 110),
.fmul (.v 109) (.v 109),
.fmul (.v 60) (.v 108),
.fmul (.v 107) (.v 107),
.fmul (.v 106) (.v 106),
.fmul (.v 105) (.v 105),
.fmul (.v 104) (.v 104),
.fmul (.v 103) (.v 103),
.fmul (.v 102) (.v 102),
.fmul (.v 101) (.v 101),
.fmul (.v 100) (.v 100),
.fmul (.v 99) (.v 99),
.fmul (.v 98) (.v 98),
.fmul (.v 97) (.v 97),
.fmul (.v 96) (.v 96),
.fmul (.v 95) (.v 95),
.fmul (.v 94) (.v 94),
.fmul (.v 93) (.v 93),
.fmul (.v 92) (.v 92),
.fmul (.v 91) (.v 91),
.fmul (.v 90) (.v 90),
.fmul (.v 89) (.v 89),
.fmul (.v 88) (.v 88),
.fmul (.v 87) (.v 87),
.fmul (.v 86) (.v 86),
.fmul (.v 85) (.v 85),
.fmul (.v 84) (.v 84),
.fmul (.v 83) (.v 83),
.fmul (.v 82) (.v 82),
.fmul (.v 81) (.v 81),
.fmul (.v 80) (.v 80),
.fmul (.v 79) (.v 79),
.fmul (.v 78) (.v 78),
.fmul (.v 77) (.v 77),
.fmul (.v 76) (.v 76),
.fmul (.v 75) (.v 75),
.fmul (.v 74) (.v 74),
.fmul (.v 73) (.v 73),
.fmul (.v 72) (.v 72),
.fmul (.v 71) (.v 71),
.fmul (.v 70) (.v 70),
.fmul (.v 69) (.v 69),
.fmul (.v 68) (.v 68),
.fmul (.v 67) (.v 67),
.fmul (.v 66) (.v 66),
.fmul (.v 65) (.v 65),
.fmul (.v 64) (.v 64),
.fmul (.v 63) (.v 63),
.fmul (.v 62) (.v 62),
.fmul (.v 61) (.v 61),
.fmul (.v 60) (.v 60),
.fmul (.v 27) (.v 59),
.fmul (.v 58) (.v 58),
.fmul (.v 57) (.v 57),
.fmul (.v 56) (.v 56),
.fmul (.v 55) (.v 55),
.fmul (.v 54) (.v 54),
.fmul (.v 53) (.v 53),
.fmul (.v 52) (.v 52),
.fmul (.v 51) (.v 51),
.fmul (.v 50) (.v 50),
.fmul (.v 49) (.v 49),
.fmul (.v 48) (.v 48),
.fmul (.v 47) (.v 47),
.fmul (.v 46) (.v 46),
.fmul (.v 45) (.v 45),
.fmul (.v 44) (.v 44),
.fmul (.v 43) (.v 43),
.fmul (.v 42) (.v 42),
.fmul (.v 23) (.v 41),
.fmul (.v 40) (.v 40),
.fmul (.v 39) (.v 39),
.fmul (.v 38) (.v 38),
.fmul (.v 37) (.v 37),
.fmul (.v 36) (.v 36),
.fmul (.v 35) (.v 35),
.fmul (.v 34) (.v 34),
.fmul (.v 33) (.v 33),
.fmul (.v 32) (.v 32),
.fmul (.v 31) (.v 31),
.fmul (.v 30) (.v 30),
.fmul (.v 29) (.v 29),
.fmul (.v 28) (.v 28),
.fmul (.v 27) (.v 27),
.fmul (.v 9) (.v 26),
.fmul (.v 25) (.v 25),
.fmul (.v 24) (.v 24),
.fmul (.v 23) (.v 23),
.fmul (.v 7) (.v 22),
.fmul (.v 21) (.v 21),
.fmul (.v 20) (.v 20),
.fmul (.v 13) (.v 19),
.fmul (.v 18) (.v 18),
.fmul (.v 17) (.v 17),
.fmul (.v 16) (.v 16),
.fmul (.v 15) (.v 15),
.fmul (.v 14) (.v 14),
.fmul (.v 13) (.v 13),
.fmul (.v 9) (.v 12),
.fmul (.v 11) (.v 11),
.fmul (.v 10) (.v 10),
.fmul (.v 9) (.v 9),
.fmul (.v 0) (.v 8),
.fmul (.v 7) (.v 7),
.fmul (.v 0) (.v 6),
.fmul (.v 0) (.v 0),
.fcst 0,
.fcst 0,
.fcst 0,
.fcst 0]

theorem run99 : brief [4] (runF (tabOf true elemPrims0) (regFix 161 2 1) 20000 Try.f99 st2i) = some (.ret, 240, ex99, outL 239, [some (.one (.ptr 0 0))]) := by kernel_rfl
theorem expo99 : expoAt (expos [none, some 1] ex99) 239 = some (pq - 2) := by decide +kernel
theorem holds99 {s : Nums} (h : Holds s 240 ex99) (h0 : s 0 < pq) : s 239 = finvq (s 0) := by
  rw [finvq_def]
  refine expos_spec (base := [none, some 1]) (fun i e he => ?_) ex99 h 239 _ expo99
  have hi := expoAt_lt he
  simp only [List.length_cons, List.length_nil] at hi
  have : i = 0 ∨ i = 1 := by omega
  rcases this with rfl | rfl
  · cases he
    rw [Nat.pow_one, Nat.mod_eq_of_lt h0]
  · cases he

theorem meets99 : PrimOk Try.prog 99 .finv := by
  unfold PrimOk
  intro w b o b1 o1 x z hlt hroom hz hzl hx hxl
  refine meets_of_calls Try.func99 (by kernel_rfl) (by kernel_rfl) ?_
  let β : Places := fun r => if r = 0 then (b, o) else (b1, o1)
  have in1 : ∀ s : Nums, (∀ i, i < 2 → s i = if i = 0 then x else z) → s 0 = x ∧ s 1 = z := fun s hs => ⟨by rw [hs _ (by omega), if_pos rfl], by rw [hs _ (by omega), if_neg (by omega)]⟩
  refine calls_brief (tabE0_ok true) run99 Try.func99 Try.ntmps99 (res := some 4) ⟨.inr rfl, Try.results99⟩ (by decide +kernel) (by decide +kernel) (by decide +kernel) (by decide) (by decide) (fun i => if i = 0 then x else z) β
    (vals := [ptrTo b o, ptrTo b1 o1]) (fun s hs => ⟨⟨rfl, lt02⟩, ⟨rfl, lt12⟩, trivial⟩)
    (fun s hs => ⟨lt02, limbs_row rfl (by rw [(in1 s hs).2]; exact hz) (by rw [(in1 s hs).2]; exact hzl), lt12, limbs_row rfl (by rw [(in1 s hs).1]; exact hx) (by rw [(in1 s hs).1]; exact hxl), trivial⟩) ?_ ?_ (fun r q _ _ h => by cases h) (fun _ _ _ i b h => by cases h) ?_
  · intro r l hl hr
    have h0 : r < 1 := of_decide_eq_true hr
    have : r = 0 := by omega
    subst this
    cases hl
    exact limbs_frz rfl hroom
  · intro r _
    show (if r = 0 then (b, o) else (b1, o1)).1 < _
    split
    · exact hlt
    · exact World.block_lt_of_cell? w _ (hx 0 (by decide))
  · intro s hs hH st' β' a' w' hts hag hr hbe
    obtain ⟨i0, _⟩ := in1 s hs
    obtain ⟨hv, _⟩ := hr.tm 4 _ (map_get hts 0 4 _ rfl rfl)
    have hb0 : β' 0 = (b, o) := hag 0 lt02
    have e2 : s 239 = finvq x := by rw [holds99 hH (by rw [i0]; exact hxl), i0]
    refine ⟨_, rfl, ?_, ?_⟩
    · show a'.tmps.getD 4 undef = _
      rw [hv, at_, hb0]
      rfl
    · rw [outL_apply hb0, e2] at hbe
      exact hbe
end P224
