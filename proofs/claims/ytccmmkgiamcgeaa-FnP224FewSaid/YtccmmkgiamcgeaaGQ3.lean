/- The reference's Sum, as a call that the executor knows. -/
import Derived.Test.YtccmmkgiamcgeaaGQ1
import Derived.Test.YtccmmkgiamcgeaaGL5
set_option linter.all false
namespace P224
open Go Go.RowKit Go.Proofs
set_option maxRecDepth 100000
set_option linter.unusedVariables false

def isByt (i : Nat) : A0 → Bool
  | .byt j _ => i == j
  | _ => false
/-- The number is below the prime: its bytes lie somewhere. -/
def hasByt (st : St) (i : Nat) : Bool := st.mem.any fun e => match lookup e.1 st.mem with
  | some l => l.any (isByt i)
  | none => false
def elSp (F : Fix) (st : St) (r : Nat) : Option Nat := match lookup r st.mem with
  | some (.l32 i k :: l) => bif sameAll (.l32 i k :: l) (l32s i) && decide (F.nold ≤ r) && hasByt st i then some i else none
  | _ => none
section
variable {s : Nums} {β : Places} {F : Fix} {w0 : World} {st : St} {a : Act} {w : World}
theorem hasByt_lt (hr : Rel F s β w0 st a w) {i : Nat} (h : hasByt st i = true) : s i < pq := by
  unfold hasByt at h
  obtain ⟨e, _, h⟩ := List.any_eq_true.1 h
  split at h
  · rename_i l hl
    obtain ⟨x, hx, h⟩ := List.any_eq_true.1 h
    obtain ⟨_, hc⟩ := hr.mem _ _ hl
    obtain ⟨j, hj⟩ := List.getElem?_of_mem hx
    obtain ⟨v, _, hv⟩ := hc j x hj
    cases x with
    | byt m k =>
      have := beq_iff_eq.1 h
      subst this
      exact hv.2
    | _ => cases h
  · cases h
theorem elSp_ok (hr : Rel F s β w0 st a w) {r i : Nat} (h : elSp F st r = some i) : El w (β r).1 0 (s i) ∧ (β r).2 = 0 ∧ s i < pq ∧ r < st.nr := by
  unfold elSp at h
  split at h
  · rename_i j k l hl
    obtain ⟨hd, h⟩ := bif_some h
    cases h
    simp only [Bool.and_eq_true, decide_eq_true_eq] at hd
    obtain ⟨⟨h1, h2⟩, h3⟩ := hd
    rw [sameAll_eq h1] at hl
    obtain ⟨hrn, _⟩ := hr.mem r _ hl
    obtain ⟨_, _, f3⟩ := hr.fresh r h2 hrn
    obtain ⟨u, _, _⟩ := row_el hr hl h2 rfl (b := (β r).1) (by rw [← f3])
    exact ⟨u, f3, hasByt_lt hr h3, hrn⟩
  · cases h
end

/-- Sum of two points with coordinates. -/
def x32a : X := fun F st args => match args with
  | [cv, .agg [.lit (.bool false), .slc r1 0 7 7, .slc r2 0 7 7], .agg [.lit (.bool false), .slc r3 0 7 7, .slc r4 0 7 7]] =>
    match isCurve st cv, elSp F st r1, elSp F st r2, elSp F st r3, elSp F st r4 with
    | some _, some i, some j, some k, some l =>
      bif F.dec st.nx == some true && F.dec (st.nx + 1) == some true then
        match F.dec (st.nx + 2) with
        | some true => some (.agg [.lit (.bool true), .lit (.slice none 0 0), .lit (.slice none 0 0)], { st with nx := st.nx + 3, exs := .op 21 (v4 i j k l) :: .op 20 [.v k, .v l] :: .op 20 [.v i, .v j] :: st.exs })
        | some false => some (.agg [.lit (.bool false), .slc st.nr 0 7 7, .slc (st.nr + 1) 0 7 7],
            { st with mem := (st.nr + 1, l32s (st.nx + 4)) :: (st.nr, l32s (st.nx + 3)) :: st.mem, nr := st.nr + 2, nx := st.nx + 5, exs := .op 23 (v4 i j k l) :: .op 22 (v4 i j k l) :: .op 21 (v4 i j k l) :: .op 20 [.v k, .v l] :: .op 20 [.v i, .v j] :: st.exs })
        | none => none
      else none
    | _, _, _, _, _ => none
  | _ => none

theorem spt_rep {s : Nums} {β : Places} {F : Fix} {w0 : World} {st : St} {a : Act} {w : World} (hr : Rel F s β w0 st a w) {r1 r2 i j : Nat} (h1 : elSp F st r1 = some i) (h2 : elSp F st r2 = some j) (hon : onN (s i) (s j) = 1) {v : Value}
    (hv : (AV.agg [.lit (.bool false), .slc r1 0 7 7, .slc r2 0 7 7]).rep s β st.nr v) : SPt w v (ptN (s i) (s j)) := by
  obtain ⟨us, rfl, hul, huc⟩ := hv
  obtain ⟨e1, z1, l1, _⟩ := elSp_ok hr h1
  obtain ⟨e2, z2, l2, _⟩ := elSp_ok hr h2
  match us, hul, huc with
  | [u0, u1, u2], _, huc =>
    have k0 : u0 = _ := huc 0 _ u0 rfl rfl
    have k1 := (huc 1 _ u1 rfl rfl).1
    have k2 := (huc 2 _ u2 rfl rfl).1
    rw [at_, z1] at k1
    rw [at_, z2] at k2
    exact .on _ _ _ _ (by rw [k0, k1, k2]) e1 e2 l1 l2 hon

theorem NewS.is_far {w w' : World} {v : Value} {p : Pt pp} (h : NewS w v w' p) (hp : p = .far) : v = .agg #[.bool true, .slice none 0 0, .slice none 0 0] ∧ Below w.heap.size w w' := by
  cases h with
  | far hv hb => exact ⟨hv, hb⟩
  | on bx b2 x y hv hn hx hy => cases hp
theorem NewS.is_on {w w' : World} {v : Value} {p : Pt pp} (h : NewS w v w' p) {x y : Nat} (hp : p = ptN x y) (hx : x < pq) (hy : y < pq) : ∃ bx b2, v = .agg #[.bool false, .slice (some ⟨bx, 0, none⟩) 7 7, .slice (some ⟨b2, 0, none⟩) 7 7] ∧ NewEls w x y bx b2 w' := by
  cases h with
  | far hv hb => cases hp
  | on bx b2 x' y' hv hn hx' hy' =>
    obtain ⟨rfl, rfl⟩ := ptN_inj (lt_pp hx') (lt_pp hy') (lt_pp hx) (lt_pp hy) hp
    exact ⟨bx, b2, hv, hn⟩

theorem x32a_ok : XOk Try.prog 32 x32a := by
  refine ⟨fun {F st st' args av} h => ?_, fun {s β F w0 st st' a w args vs av} hr h hargs hH => ?_⟩
  · unfold x32a at h
    split at h
    · split at h
      · obtain ⟨_, h⟩ := bif_some h
        split at h
        · cases h; exact ⟨⟨[_, _, _], rfl, rfl⟩, Nat.le_refl _⟩
        · cases h; exact ⟨⟨[_, _, _, _, _], rfl, rfl⟩, Nat.le_add_right _ _⟩
        · cases h
      · cases h
    · cases h
  · unfold x32a at h
    split at h
    · rename_i cv r1 r2 r3 r4
      split at h
      · rename_i q i j k l hcv h1 h2 h3 h4
        obtain ⟨hd, h⟩ := bif_some h
        simp only [Bool.and_eq_true, beq_iff_eq] at hd
        obtain ⟨hd1, hd2⟩ := hd
        obtain ⟨u0, u1, u2, rfl, hu0, hu1, hu2⟩ := avs3 hargs
        obtain ⟨rf, of⟩ := q
        obtain ⟨c0, c1, c2⟩ := isCurve_rep hr hcv hu0
        obtain ⟨_, _, l1, _⟩ := elSp_ok hr h1
        obtain ⟨_, _, l2, _⟩ := elSp_ok hr h2
        obtain ⟨_, _, l3, _⟩ := elSp_ok hr h3
        obtain ⟨_, _, l4, _⟩ := elSp_ok hr h4
        have d1 := hr.dec _ _ hd1
        have d2 := hr.dec _ _ hd2
        have main : onN (s i) (s j) = 1 → onN (s k) (s l) = 1 → Meets Try.prog 32 #[u0, u1, u2] w fun r w' => NewS w r w' (addN (s i) (s j) (s k) (s l)) := fun o1 o2 => by
          rw [c0]
          exact meets32 w _ _ _ _ c1 (spt_rep hr h1 h2 o1 hu1) (spt_rep hr h3 h4 o2 hu2) l1 l2 l3 l4
        split at h
        · rename_i hd3
          cases h
          have d3 := hr.dec _ _ hd3
          have e1 : s st.nx = onN (s i) (s j) := hH.2.2.1
          have e2 : s (st.nx + 1) = onN (s k) (s l) := hH.2.1
          have e3 : s (st.nx + 2) = farOf (addN (s i) (s j) (s k) (s l)) := hH.1
          rw [d1] at e1
          rw [d2] at e2
          rw [d3] at e3
          have hme := main e1.symm e2.symm
          intro o' a' next Q hn
          refine hme o' a' next Q fun r w' hnew => hn _ _ ?_
          rcases farOf_cases (addN (s i) (s j) (s k) (s l)) with ⟨_, g⟩ | ⟨g, _⟩
          · obtain ⟨hv, hb⟩ := hnew.is_far g
            refine ⟨β, Agree.refl _ _, ⟨[_, _, _], hv, rfl, fun k a x ha hx => ?_⟩, (hr.kept hb).nums _ _⟩
            match k, ha, hx with
            | 0, ha, hx => cases ha; cases hx; exact rfl
            | 1, ha, hx => cases ha; cases hx; exact rfl
            | 2, ha, hx => cases ha; cases hx; exact rfl
            | k + 3, ha, hx => cases ha
          · rw [g] at e3; cases e3
        · rename_i hd3
          cases h
          have d3 := hr.dec _ _ hd3
          have e1 : s st.nx = onN (s i) (s j) := hH.2.2.2.2.1
          have e2 : s (st.nx + 1) = onN (s k) (s l) := hH.2.2.2.1
          have e3 : s (st.nx + 2) = farOf (addN (s i) (s j) (s k) (s l)) := hH.2.2.1
          have ex : s (st.nx + 3) = xOf (addN (s i) (s j) (s k) (s l)) := hH.2.1
          have ey : s (st.nx + 4) = yOf (addN (s i) (s j) (s k) (s l)) := hH.1
          rw [d1] at e1
          rw [d2] at e2
          rw [d3] at e3
          have hme := main e1.symm e2.symm
          intro o' a' next Q hn
          refine hme o' a' next Q fun r w' hnew => hn _ _ ?_
          rcases farOf_cases (addN (s i) (s j) (s k) (s l)) with ⟨g, _⟩ | ⟨_, g⟩
          · rw [g] at e3; cases e3
          · obtain ⟨bx, b2, hv, hels⟩ := hnew.is_on g (xOf_lt _) (yOf_lt _)
            obtain ⟨β', g1, g2, g3, g4⟩ := hr.els hels ex ey
            refine ⟨β', g1, ⟨[_, _, _], hv, rfl, fun k a x ha hx => ?_⟩, g4.nums _ _⟩
            match k, ha, hx with
            | 0, ha, hx => cases ha; cases hx; exact rfl
            | 1, ha, hx => cases ha; cases hx; exact ⟨by rw [at_, g2], Nat.lt_succ_of_lt (Nat.lt_succ_self _)⟩
            | 2, ha, hx => cases ha; cases hx; exact ⟨by rw [at_, g3], Nat.lt_succ_self _⟩
            | k + 3, ha, hx => cases ha
        · cases h
      · cases h
    · cases h
noncomputable def x32 : X := X.or x32a (inlX (tabX true [] xq2) 2000 Try.f32)
theorem x32_ok : XOk Try.prog 32 x32 := X.or_ok x32a_ok (inlX_ok (tabX_ok noPrims_ok xq2_ok) 2000 Try.func32 (by kernel_rfl))
end P224
/- The laws' table, with Sum and the package's Add by contract. -/
namespace P224
open Go Go.RowKit Go.Proofs
set_option maxRecDepth 100000
set_option linter.unusedVariables false
noncomputable def xy0 : List (Nat × X) := (35, x35) :: (32, x32) :: (28, X.or x28g x28) :: xm1
theorem xy0_ok : XsOk xy0 := xcons_ok x35_ok (xcons_ok x32_ok (xcons_ok (X.or_ok x28g_ok x28_ok) xm1_ok))
noncomputable def xy1 : List (Nat × X) := with1 (with1 (with1 (with1 (with1 xy0 pointPrims 2000 30 Try.f30) pointPrims 2000 31 Try.f31) pointPrims 2000 34 Try.f34) pointPrims 2000 39 Try.f39) pointPrims 2000 37 Try.f37
theorem xy1_ok : XsOk xy1 := with1_ok pointPrims_ok (with1_ok pointPrims_ok (with1_ok pointPrims_ok (with1_ok pointPrims_ok (with1_ok pointPrims_ok xy0_ok Try.func30 (by kernel_rfl)) Try.func31 (by kernel_rfl)) Try.func34 (by kernel_rfl)) Try.func39 (by kernel_rfl)) Try.func37 (by kernel_rfl)
noncomputable def xy2 : List (Nat × X) := with1 (with1 (with1 xy1 pointPrims 2000 33 Try.f33) pointPrims 2000 40 Try.f40) pointPrims 2000 38 Try.f38
theorem xy2_ok : XsOk xy2 := with1_ok pointPrims_ok (with1_ok pointPrims_ok (with1_ok pointPrims_ok xy1_ok Try.func33 (by kernel_rfl)) Try.func40 (by kernel_rfl)) Try.func38 (by kernel_rfl)
end P224
/- Laws with two slices of bytes, where one is no point or too long. -/
namespace P224
open Go Go.RowKit Go.Proofs
set_option maxRecDepth 100000
set_option linter.unusedVariables false

def npSy2 : List (Nat × (Nat × Nat)) := [(0, (0, 3)), (1, (4, 7))]
def stSy2 : St := startSt [.one (.sy 0 0), .one (.sy 1 4)] [] 8 2
def lenE (i : Nat) : Ex := .op 3 [.c 2147483647, .v i]
theorem len_gt {s : Nums} {i k n : Nat} (h : s k = (lenE i).val s) (hi : s i = n) (hn : n < 2 ^ 63) : s k = if 2147483647 < n then 1 else 0 := by
  have e : s k = if sgn 2147483647 < sgn (s i) then 1 else 0 := h
  have hs : sgn 2147483647 = 2147483647 := by decide
  have hsn : sgn n = n := by unfold sgn; rw [if_pos hn]
  rw [hi, hs, hsn] at e
  rw [e]
  by_cases hh : 2147483647 < n
  · rw [if_pos hh, if_pos (by omega)]
  · rw [if_neg hh, if_neg (by omega)]

theorem law_two {g : FuncId} {fn : Func} {nt : Nat} {xs : List (Nat × X)} (hx : XsOk xs)
    (run1 : briefR (tabZ xs) fn [] (runF (tabZ xs) (fixN nt 2 [(8, true)] npSy2) 3000 fn stSy2) = some ⟨.ret, 9, [lenE 0], [], [.one (.lit (.bool true))], []⟩)
    (run2 : briefR (tabZ xs) fn [] (runF (tabZ xs) (fixN nt 2 [(8, false), (9, true)] npSy2) 3000 fn stSy2) = some ⟨.ret, 10, [lenE 4, lenE 0], [], [.one (.lit (.bool true))], []⟩)
    (run3 : briefR (tabZ xs) fn [] (runF (tabZ xs) (fixN nt 2 [(8, false), (9, false), (10, true)] npSy2) 3000 fn stSy2) = some ⟨.ret, 11, [.feq (.v 3) (.c 0), lenE 4, lenE 0], [], [.one (.lit (.bool true))], []⟩)
    (run4 : briefR (tabZ xs) fn [] (runF (tabZ xs) (fixN nt 2 [(8, false), (9, false), (10, false), (11, true)] npSy2) 3000 fn stSy2) = some ⟨.ret, 12, [.feq (.v 7) (.c 0), .feq (.v 3) (.c 0), lenE 4, lenE 0], [], [.one (.lit (.bool true))], []⟩)
    (hf : Try.prog.funcs[g]? = some fn) (hnt : fn.ntmps = nt) (h1 : 2 ≤ nt) {w : World} {v v' : Value} {b o n u d f b' o' n' u' d' f' : Nat} (h : Sl w v b o n u d f) (h' : Sl w v' b' o' n' u' d' f')
    (hbad : 2147483647 < n ∨ 2147483647 < n' ∨ f = 0 ∨ f' = 0) : Law g w [v, v'] := by
  let s0 : Nums := fun i => if i = 0 then n else if i = 1 then u else if i = 2 then d else if i = 3 then f else if i = 4 then n' else if i = 5 then u' else if i = 6 then d' else f'
  let β : Places := fun r => if r = 0 then (b, o) else (b', o')
  have hargs : ∀ s : Nums, (∀ i, i < 8 → s i = s0 i) → ArgsOk s β 2 [.one (.sy 0 0), .one (.sy 1 4)] [v, v'] := fun s hs =>
    ⟨h.rep rfl (by decide) (hs 0 (by decide)) (hs 1 (by decide)) (hs 2 (by decide)), h'.rep rfl (by decide) (hs 4 (by decide)) (hs 5 (by decide)) (hs 6 (by decide)), trivial⟩
  have hold : ∀ r, r < 2 → (β r).1 < w.heap.size := fun r _ => by
    show (if r = 0 then (b, o) else (b', o')).1 < _
    split
    · exact h.lt
    · exact h'.lt
  have hnp : ∀ s : Nums, (∀ i, i < 8 → s i = s0 i) → ∀ r i j, findT r npSy2 = some (i, j) → r < 2 ∧ Flag w (β r) (s i) (s j) := fun s hs r i j hh => by
    have := findT_mem hh
    simp only [npSy2, List.mem_cons, List.not_mem_nil, or_false, Prod.mk.injEq] at this
    rcases this with ⟨rfl, rfl, rfl⟩ | ⟨rfl, rfl, rfl⟩
    · exact ⟨by decide, h.np rfl (hs 0 (by decide)) (hs 3 (by decide))⟩
    · exact ⟨by decide, h'.np rfl (hs 4 (by decide)) (hs 7 (by decide))⟩
  by_cases c1 : 2147483647 < n
  · refine calls_briefR (F := fixN nt 2 [(8, true)] npSy2) (tabZ_ok hx) run1 hf hnt rfl (by decide +kernel) (by decide +kernel) (by decide +kernel) h1 (show 2 < 4095 by decide) s0 β
      (vals := [v, v']) hargs (fun s hs => trivial) (fun r l hl hr => by cases hr) hold (fun r q _ _ h => by cases h) ?_ ?_ hnp
    · intro s hs hH i bb hb
      have e8 := len_gt hH.1 (hs 0 (by decide)) h.n63
      rw [if_pos (show 2147483647 < s0 0 from c1)] at e8
      obtain ⟨rfl, rfl⟩ := dec1 hb
      exact e8
    · intro s hs hH st' β' a' w' v' hv' hm hag hr hbe
      have hv2 : v' = .bool true := hv'
      exact ⟨by rw [hv2], hbe⟩
  by_cases c2 : 2147483647 < n'
  · refine calls_briefR (F := fixN nt 2 [(8, false), (9, true)] npSy2) (tabZ_ok hx) run2 hf hnt rfl (by decide +kernel) (by decide +kernel) (by decide +kernel) h1 (show 2 < 4095 by decide) s0 β
      (vals := [v, v']) hargs (fun s hs => trivial) (fun r l hl hr => by cases hr) hold (fun r q _ _ h => by cases h) ?_ ?_ hnp
    · intro s hs hH i bb hb
      have e8 := len_gt hH.2.1 (hs 0 (by decide)) h.n63
      have e9 := len_gt hH.1 (hs 4 (by decide)) h'.n63
      rw [if_neg (show ¬ 2147483647 < s0 0 from c1)] at e8
      rw [if_pos (show 2147483647 < s0 4 from c2)] at e9
      rcases dec2 hb with ⟨rfl, rfl⟩ | ⟨rfl, rfl⟩
      · exact e8
      · exact e9
    · intro s hs hH st' β' a' w' v' hv' hm hag hr hbe
      have hv2 : v' = .bool true := hv'
      exact ⟨by rw [hv2], hbe⟩
  by_cases c3 : f = 0
  · refine calls_briefR (F := fixN nt 2 [(8, false), (9, false), (10, true)] npSy2) (tabZ_ok hx) run3 hf hnt rfl (by decide +kernel) (by decide +kernel) (by decide +kernel) h1 (show 2 < 4095 by decide) s0 β
      (vals := [v, v']) hargs (fun s hs => trivial) (fun r l hl hr => by cases hr) hold (fun r q _ _ h => by cases h) ?_ ?_ hnp
    · intro s hs hH i bb hb
      have e8 := len_gt hH.2.2.1 (hs 0 (by decide)) h.n63
      have e9 := len_gt hH.2.1 (hs 4 (by decide)) h'.n63
      rw [if_neg (show ¬ 2147483647 < s0 0 from c1)] at e8
      rw [if_neg (show ¬ 2147483647 < s0 4 from c2)] at e9
      have e10 : s 10 = if s 3 = 0 then 1 else 0 := hH.1
      rw [if_pos ((hs 3 (by decide)).trans c3)] at e10
      have := findT_mem (show findT i [(8, false), (9, false), (10, true)] = some bb from hb)
      simp only [List.mem_cons, List.not_mem_nil, or_false, Prod.mk.injEq] at this
      rcases this with ⟨rfl, rfl⟩ | ⟨rfl, rfl⟩ | ⟨rfl, rfl⟩
      · exact e8
      · exact e9
      · exact e10
    · intro s hs hH st' β' a' w' v' hv' hm hag hr hbe
      have hv2 : v' = .bool true := hv'
      exact ⟨by rw [hv2], hbe⟩
  · have c4 : f' = 0 := by omega
    refine calls_briefR (F := fixN nt 2 [(8, false), (9, false), (10, false), (11, true)] npSy2) (tabZ_ok hx) run4 hf hnt rfl (by decide +kernel) (by decide +kernel) (by decide +kernel) h1 (show 2 < 4095 by decide) s0 β
      (vals := [v, v']) hargs (fun s hs => trivial) (fun r l hl hr => by cases hr) hold (fun r q _ _ h => by cases h) ?_ ?_ hnp
    · intro s hs hH i bb hb
      have e8 := len_gt hH.2.2.2.1 (hs 0 (by decide)) h.n63
      have e9 := len_gt hH.2.2.1 (hs 4 (by decide)) h'.n63
      rw [if_neg (show ¬ 2147483647 < s0 0 from c1)] at e8
      rw [if_neg (show ¬ 2147483647 < s0 4 from c2)] at e9
      have e10 : s 10 = if s 3 = 0 then 1 else 0 := hH.2.1
      have e3 : s 3 = f := hs 3 (by decide)
      rw [if_neg (by rw [e3]; exact c3)] at e10
      have e11 : s 11 = if s 7 = 0 then 1 else 0 := hH.1
      rw [if_pos ((hs 7 (by decide)).trans c4)] at e11
      have := findT_mem (show findT i [(8, false), (9, false), (10, false), (11, true)] = some bb from hb)
      simp only [List.mem_cons, List.not_mem_nil, or_false, Prod.mk.injEq] at this
      rcases this with ⟨rfl, rfl⟩ | ⟨rfl, rfl⟩ | ⟨rfl, rfl⟩ | ⟨rfl, rfl⟩
      · exact e8
      · exact e9
      · exact e10
      · exact e11
    · intro s hs hH st' β' a' w' v' hv' hm hag hr hbe
      have hv2 : v' = .bool true := hv'
      exact ⟨by rw [hv2], hbe⟩
end P224
