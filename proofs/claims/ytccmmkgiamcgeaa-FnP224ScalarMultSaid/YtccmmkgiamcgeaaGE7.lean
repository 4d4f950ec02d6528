/- The executor is right: rows of operations, regions whose order is drawn, a whole body; a call by the executor's run. -/
import Derived.Test.YtccmmkgiamcgeaaGE4
import Derived.Tactics
set_option linter.all false
namespace P224
open Go Go.RowKit
section
variable {P : Program} {T : Tab} {F : Fix} {s : Nums} {β : Places} {w0 : World} {st : St} {a : Act} {w : World}

theorem getD_set_same (l : Array Value) (t : Nat) (v u : Value) (h : t < l.size) : (l.setIfInBounds t v).getD t u = v := by
  simp [Array.getD, h]
theorem getD_set_other (l : Array Value) (t q : Nat) (v u : Value) (h : t ≠ q) : (l.setIfInBounds t v).getD q u = l.getD q u := by
  simp only [Array.getD_eq_getD_getElem?]
  rw [Array.getElem?_setIfInBounds_ne h]

theorem Rel.put (h : Rel F s β w0 st a w) {d : Option Tmp} {v : AV} {x : Value} {st' : St} (hp : putTm F st d v = some st') (hv : v.rep s β st.nr x) : Rel F s β w0 st' (a.put d x) w := by
  unfold putTm at hp
  cases d with
  | none => cases hp; exact h
  | some t =>
    obtain ⟨hd, h2⟩ := bif_some hp
    cases h2
    simp only [Bool.and_eq_true, decide_eq_true_eq] at hd
    refine ⟨?_, h.defs, ?_, h.mem, h.frz, h.fresh, h.dist, h.old, h.sep, h.nold, h.outs, h.below, h.dec, h.it, h.np⟩
    · show (a.tmps.setIfInBounds t x).size = F.nt
      rw [Array.size_setIfInBounds]; exact h.size
    · intro q y hy
      show y.rep s β st.nr ((a.tmps.setIfInBounds t x).getD q undef)
      by_cases hq : t = q
      · subst hq
        rw [getD_set_same _ _ _ _ (by rw [h.size]; exact hd.1)]
        rw [show Tr.get (Tr.set 12 st.tm t v) t = some v from Tr.get_set_same 12 _ _ _ (Nat.lt_of_le_of_lt (Nat.succ_le_of_lt hd.1) (Nat.lt_trans hd.2 (by decide)))] at hy
        cases hy
        exact hv
      · rw [getD_set_other _ _ _ _ _ hq]
        rw [show Tr.get (Tr.set 12 st.tm t v) q = st.tm.get q from Tr.get_set_other 12 _ _ _ _ hq] at hy
        exact h.tm q y hy

theorem put_st {d : Option Tmp} {v : AV} {st' : St} (hp : putTm F st d v = some st') : st'.nx = st.nx ∧ st'.exs = st.exs ∧ st'.nr = st.nr ∧ st'.mem = st.mem := by
  unfold putTm at hp
  cases d with
  | none => cases hp; exact ⟨rfl, rfl, rfl, rfl⟩
  | some t =>
    obtain ⟨_, h2⟩ := bif_some hp
    cases h2
    exact ⟨rfl, rfl, rfl, rfl⟩

theorem put_grows {st st1 st' : St} {d : Option Tmp} {v : AV} (h : Grows st st1) (hp : putTm F st1 d v = some st') : Grows st st' := by
  obtain ⟨h1, h2, h3, _⟩ := put_st hp
  exact h.trans ⟨⟨[], by rw [h2]; rfl, by rw [h1]; rfl⟩, by rw [h3]; exact Nat.le_refl _⟩

theorem addExs_grows (st : St) (l : List Ex) : Grows st (addExs st l) := ⟨⟨l, rfl, rfl⟩, Nat.le_refl _⟩

theorem step_grows (hT : T.Ok P) {L : Nat → Bool} {ops : Array Oper} {o : Oper} {st' : St} (h : step T F L ops st o = some st') : Grows st st' := by
  unfold step at h
  split at h
  · cases hq : isQuiet o.op with
    | true =>
      rw [hq, cond_true] at h
      split at h
      · exact put_grows (addExs_grows _ _) h
      · cases h
    | false =>
      rw [hq, cond_false] at h
      split at h
      · rename_i hl
        exact put_grows (loud_grows hT hl) h
      · cases h
  · exact put_grows (.refl _) h
  · cases h

theorem steps_grows (hT : T.Ok P) {ops : Array Oper} : ∀ {l : List Oper} {st st' : St}, steps T F ops l st = some st' → Grows st st'
  | [], st, st', h => by cases h; exact .refl _
  | o :: l, st, st', h => by
    rw [steps] at h
    split at h
    · rename_i st1 h1
      exact (step_grows hT h1).trans (steps_grows hT h)
    · cases h

theorem yielded_of {ops : Array Oper} {tmps : Array Value} {j t : Nat} {b : Bool} (ht : (ops[j]?).bind (·.dst) = some t) (hv : tmps.getD t undef = .bool b) : yielded ops tmps j = some b := by
  unfold yielded
  rw [ht, Option.bind_some]
  rw [Array.getD_eq_getD_getElem?] at hv
  cases hg : tmps[t]? with
  | none => rw [hg] at hv; cases hv
  | some v => rw [hg] at hv; cases hv; rfl

theorem wants_rep (h : Rel F s β w0 st a w) {ops : Array Oper} {o : Oper} {b : Bool} (hw : wants F st ops o = some b) : Region.wanted o (yielded ops a.tmps) = b := by
  unfold wants at hw
  unfold Region.wanted
  split at hw
  · rename_i hg
    cases hw
    rw [hg]
  · rename_i j want hg
    rw [hg]
    split at hw
    · rename_i t ht
      split at hw
      · rename_i c hc
        cases hw
        have hv := truth_rep h.dec hc (ev_rep h.tm (.tmp t))
        simp only [yielded_of ht hv]
        cases c <;> cases want <;> rfl
      · split at hw
        · rename_i u hu
          cases hw
          have hv : a.tmps.getD t undef = .tuple u := h.tm t _ hu
          have hy : yielded ops a.tmps j = none := by
            unfold yielded
            rw [ht, Option.bind_some]
            rw [Array.getD_eq_getD_getElem?] at hv
            cases hq : a.tmps[t]? with
            | none => rfl
            | some x =>
              rw [hq] at hv
              have hv : x = .tuple u := hv
              subst hv
              rfl
          simp only [hy]
          rfl
        · cases hw
    · cases hw

/-- What one step is. -/
theorem step_cases {L : Nat → Bool} {ops : Array Oper} {o : Oper} {st' : St} (h : step T F L ops st o = some st') :
    (wants F st ops o = some true ∧ ((isQuiet o.op = true ∧ ∃ v l, quiet T F L st o.op = some (v, l) ∧ putTm F (addExs st l) o.dst v = some st') ∨ (isQuiet o.op = false ∧ ∃ v st1, loud T F st o.op = some (v, st1) ∧ putTm F st1 o.dst v = some st'))) ∨
    (wants F st ops o = some false ∧ putTm F st o.dst (.one (.lit (.tuple #[]))) = some st') := by
  unfold step at h
  split at h
  · rename_i hw
    refine .inl ⟨hw, ?_⟩
    cases hq : isQuiet o.op with
    | true =>
      rw [hq, cond_true] at h
      split at h
      · rename_i v l hl; exact .inl ⟨rfl, v, l, hl, h⟩
      · cases h
    | false =>
      rw [hq, cond_false] at h
      split at h
      · rename_i v st1 hl; exact .inr ⟨rfl, v, st1, hl, h⟩
      · cases h
  · rename_i hw
    exact .inr ⟨hw, h⟩
  · cases h

/-- One operation that is to be carried out. -/
theorem step_wp (hT : T.Ok P) (h : Rel F s β w0 st a w) {L : Nat → Bool} {ops : Array Oper} {o : Oper} {st' : St} (hs : step T F L ops st o = some st') (hw : wants F st ops o = some true) (hH : Holds s st'.nx st'.exs)
    {next : Act → World → Prop} {Q : Exit → Act → World → Prop} (hn : ∀ β' a' w', Agree β β' st.nr → Rel F s β' w0 st' a' w' → next a' w') : o.wp P a w next Q := by
  rcases step_cases hs with ⟨_, ⟨_, v, l, hl, hs⟩ | ⟨_, v, st1, hl, hs⟩⟩ | ⟨hw', _⟩
  · obtain ⟨h1, h2, h3, _⟩ := put_st hs
    rw [h1, h2] at hH
    obtain ⟨x, hx, hrun⟩ := quiet_rep hT h.dec hl h.tm hH (h.reads L)
    refine upon_value_ok (hrun w (h.reads L)) (hn β _ _ (Agree.refl _ _) ?_)
    exact (h.nums _ _).put hs hx
  · obtain ⟨h1, h2, h3, _⟩ := put_st hs
    rw [h1, h2] at hH
    refine loud_rep hT h hl hH fun x w' ⟨β', hag, hx, hr⟩ => hn β' _ _ hag (hr.put hs hx)
  · rw [hw] at hw'
    cases hw'

theorem step_wants {L : Nat → Bool} {ops : Array Oper} {o : Oper} {st' : St} (h : step T F L ops st o = some st') : wants F st ops o = some true ∨ (wants F st ops o = some false ∧ putTm F st o.dst (.one (.lit (.tuple #[]))) = some st') := by
  rcases step_cases h with ⟨h, _⟩ | h
  · exact .inl h
  · exact .inr h

theorem steps_wp (hT : T.Ok P) {ops : Array Oper} {Q : Exit → Act → World → Prop} : ∀ {l : List Oper} {β : Places} {st st' : St} {a : Act} {w : World}, Rel F s β w0 st a w → steps T F ops l st = some st' → Holds s st'.nx st'.exs →
    (∀ β' a' w', Agree β β' st.nr → Rel F s β' w0 st' a' w' → Q .normal a' w') → wpList P ops Q l a w
  | [], β, st, st', a, w, h, hs, _, hn => by
    cases hs
    exact hn β a w (Agree.refl _ _) h
  | o :: l, β, st, st', a, w, h, hs, hH, hn => by
    rw [steps] at hs
    split at hs
    · rename_i st1 h1
      have hg := steps_grows hT hs
      rw [wpList]
      rcases step_wants h1 with hw | ⟨hw, hp⟩
      · rw [wants_rep h hw, if_pos rfl]
        refine .inl (step_wp hT h h1 hw (hg.le.holds hH) fun β1 a1 w1 hag hr => ?_)
        exact steps_wp hT hr hs hH fun β' a' w' hag' hr' => hn β' a' w' (hag.trans hag' (step_grows hT h1).nr) hr'
      · rw [wants_rep h hw, if_neg (by decide)]
        have hr := h.put hp (x := undef) rfl
        exact steps_wp hT hr hs hH fun β' a' w' hag' hr' => hn β' a' w' ((Agree.refl _ _).trans hag' (step_grows hT h1).nr) hr'
    · cases hs

/-! ### regions whose order is drawn -/
theorem litSame_eq {u v : Value} (h : litSame u v = true) : u = v := by
  unfold litSame at h
  split at h
  · simp only [Bool.and_eq_true, beq_iff_eq] at h
    rw [h.1, h.2]
  · rfl
  · simp only [Bool.and_eq_true, decide_eq_true_eq] at h
    rw [h.1, h.2]
  · rfl
  · rw [beq_iff_eq.1 h]
  · simp only [Bool.and_eq_true, Array.isEmpty_iff] at h
    rw [h.1, h.2]
  · cases h

theorem A0.same_eq {x y : A0} (h : x.same y = true) : x = y := by
  unfold A0.same at h
  split at h
  · rw [litSame_eq h]
  · simp only [Bool.and_eq_true, decide_eq_true_eq, beq_iff_eq] at h; rw [h.1, h.2]
  · simp only [Bool.and_eq_true, decide_eq_true_eq, beq_iff_eq] at h; rw [h.1, h.2]
  · simp only [Bool.and_eq_true, beq_iff_eq] at h; rw [h.1, h.2]
  · simp only [Bool.and_eq_true, beq_iff_eq] at h; rw [h.1, h.2]
  · simp only [Bool.and_eq_true, beq_iff_eq] at h; rw [h.1.1.1, h.1.1.2, h.1.2, h.2]
  · simp only [Bool.and_eq_true, beq_iff_eq] at h; rw [h.1, h.2]
  · rw [beq_iff_eq.1 h]
  · simp only [Bool.and_eq_true, beq_iff_eq] at h; rw [h.1, h.2]
  · simp only [Bool.and_eq_true, beq_iff_eq] at h; rw [h.1, h.2]
  · rw [beq_iff_eq.1 h]
  · simp only [Bool.and_eq_true, beq_iff_eq] at h; rw [h.1.1, h.1.2, h.2]
  · simp only [Bool.and_eq_true, beq_iff_eq] at h; rw [h.1.1.1, h.1.1.2, h.1.2, h.2]
  · rfl
  · rfl
  · simp only [Bool.and_eq_true, beq_iff_eq] at h; rw [h.1, h.2]
  · rfl
  · cases h

theorem sameAll_eq : ∀ {l m : List A0}, sameAll l m = true → l = m
  | [], [], _ => rfl
  | a :: l, b :: m, h => by
    simp only [sameAll, Bool.and_eq_true] at h
    rw [A0.same_eq h.1, sameAll_eq h.2]
  | [], _ :: _, h => by cases h
  | _ :: _, [], h => by cases h

theorem keeps_spec {L : Nat → Bool} {m m' : List (Nat × List A0)} (h : keeps L m m' = true) {r : Nat} (hL : L r = true) {l : List A0} (hl : lookup r m = some l) : lookup r m' = some l := by
  have := List.all_eq_true.1 h (r, l) (lookup_mem hl)
  simp only [hL, Bool.not_true, Bool.false_or, hl] at this
  split at this
  · rename_i l1 l2 h1 h2
    cases h1
    rw [h2, sameAll_eq this]
  · cases this

mutual
theorem AV.same_eq : ∀ {x y : AV}, x.same y = true → x = y
  | .one a, .one b, h => by rw [AV.same] at h; rw [A0.same_eq h]
  | .two a b, .two c d, h => by rw [AV.same, Bool.and_eq_true] at h; rw [A0.same_eq h.1, A0.same_eq h.2]
  | .agg l, .agg m, h => by rw [AV.same] at h; rw [sameAll_eq h]
  | .tup l, .tup m, h => by rw [AV.same] at h; rw [AV.sameL_eq h]
  | .one _, .two _ _, h | .one _, .agg _, h | .one _, .tup _, h | .two _ _, .one _, h | .two _ _, .agg _, h | .two _ _, .tup _, h | .agg _, .one _, h | .agg _, .two _ _, h | .agg _, .tup _, h | .tup _, .one _, h | .tup _, .two _ _, h | .tup _, .agg _, h => by simp [AV.same] at h
theorem AV.sameL_eq : ∀ {x y : List AV}, AV.sameL x y = true → x = y
  | [], [], _ => rfl
  | x :: l, y :: m, h => by
    rw [AV.sameL, Bool.and_eq_true] at h
    rw [AV.same_eq h.1, AV.sameL_eq h.2]
  | [], _ :: _, h | _ :: _, [], h => by simp [AV.sameL] at h
end
theorem optSame_eq {x y : Option AV} (h : optSame x y = true) : x = y := by
  unfold optSame at h
  split at h
  · rfl
  · rw [AV.same_eq h]
  · cases h
theorem Tr.same_eq : ∀ {x y : Tr}, x.same y = true → x = y
  | .nil, .nil, _ => rfl
  | .node v l r, .node v' l' r', h => by
    simp only [Tr.same, Bool.and_eq_true] at h
    rw [optSame_eq h.1.1, Tr.same_eq h.1.2, Tr.same_eq h.2]
  | .nil, .node .., h => by cases h
  | .node .., .nil, h => by cases h
theorem memSame_eq : ∀ {x y : List (Nat × List A0)}, memSame x y = true → x = y
  | [], [], _ => rfl
  | (r, l) :: m, (r', l') :: m', h => by
    simp only [memSame, Bool.and_eq_true, beq_iff_eq] at h
    rw [h.1.1, sameAll_eq h.1.2, memSame_eq h.2]
  | [], _ :: _, h => by cases h
  | _ :: _, [], h => by cases h
theorem outSame_eq : ∀ {x y : List (Nat × Nat × A0)}, outSame x y = true → x = y
  | [], [], _ => rfl
  | (r, o, a) :: m, (r', o', a') :: m', h => by
    simp only [outSame, Bool.and_eq_true, beq_iff_eq] at h
    rw [h.1.1.1, h.1.1.2, A0.same_eq h.1.2, outSame_eq h.2]
  | [], _ :: _, h => by cases h
  | _ :: _, [], h => by cases h
theorem St.same_eq {x y : St} (h : x.same y = true) : x = y := by
  obtain ⟨t1, m1, n1, r1, e1, o1, i1⟩ := x
  obtain ⟨t2, m2, n2, r2, e2, o2, i2⟩ := y
  simp only [St.same, Bool.and_eq_true, beq_iff_eq, decide_eq_true_eq] at h
  obtain ⟨⟨⟨⟨⟨⟨h1, h2⟩, h3⟩, h4⟩, h5⟩, h6⟩, h7⟩ := h
  rw [h1, h2, Tr.same_eq h3, memSame_eq h4, h5, outSame_eq h6, h7]
theorem agreed_spec : ∀ {l : List (Option St)} {y : St}, agreed l = some y → ∀ x ∈ l, x = some y
  | [], _, h => by cases h
  | [x], y, h => fun z hz => by
    rw [agreed] at h
    rw [List.mem_singleton.1 hz, h]
  | some x :: u :: l, y, h => fun z hz => by
    rw [agreed] at h
    · split at h
      · rename_i y' hy'
        obtain ⟨h1, h2⟩ := bif_some h
        cases h2
        rcases List.mem_cons.1 hz with rfl | hz
        · rw [St.same_eq h1]
        · exact agreed_spec hy' z hz
      · cases h
    · intro e; cases e
  | none :: u :: l, y, h => by
    rw [agreed] at h
    · cases h
    · intro e; cases e

theorem pickQuiet_spec {L : Nat → Bool} {st : St} {ops : Array Oper} {listed : Array Bool} {i : Nat} {st1 : St} : ∀ {rs : List Nat}, pickQuiet T F L st ops listed rs = some (i, st1) →
    i ∈ rs ∧ ∃ o, ops[i]? = some o ∧ isQuiet o.op = true ∧ Region.free .any ops listed i = true ∧ step T F L ops st o = some st1
  | j :: rs, h => by
    rw [pickQuiet] at h
    have more : pickQuiet T F L st ops listed rs = some (i, st1) → i ∈ j :: rs ∧ ∃ o, ops[i]? = some o ∧ isQuiet o.op = true ∧ Region.free .any ops listed i = true ∧ step T F L ops st o = some st1 := fun h => by
      obtain ⟨h1, h2⟩ := pickQuiet_spec h
      exact ⟨List.mem_cons_of_mem _ h1, h2⟩
    split at h
    · rename_i o ho
      cases hb : (isQuiet o.op && Region.free .any ops listed j) with
      | true =>
        rw [hb, cond_true] at h
        split at h
        · rename_i st' hs
          cases h
          simp only [Bool.and_eq_true] at hb
          exact ⟨List.mem_cons_self, o, ho, hb.1, hb.2, hs⟩
        · exact more h
      | false =>
        rw [hb, cond_false] at h
        exact more h
    · exact more h

/-! ### new regions in a fixed order -/
structure Perm (n0 nr : Nat) (σ τ : Nat → Nat) : Prop where
  lt : ∀ r, r < nr → σ r < nr
  back : ∀ r, r < nr → τ (σ r) = r
  lt' : ∀ r, r < nr → τ r < nr
  forth : ∀ r, r < nr → σ (τ r) = r
  old : ∀ r, r < nr → r < n0 → τ r = r
  new : ∀ r, r < nr → n0 ≤ r → n0 ≤ τ r
theorem isPerm_spec {n0 nr : Nat} {σ τ : Nat → Nat} (h : isPerm n0 nr σ τ = true) : Perm n0 nr σ τ := by
  have key : ∀ r, r < nr → (σ r < nr ∧ τ (σ r) = r ∧ τ r < nr ∧ σ (τ r) = r) ∧ (bif decide (r < n0) then τ r == r else decide (n0 ≤ τ r)) = true := fun r hr => by
    have := List.all_eq_true.1 h r (List.mem_range.2 hr)
    simp only [Bool.and_eq_true, decide_eq_true_eq, beq_iff_eq] at this
    obtain ⟨⟨⟨⟨h1, h2⟩, h3⟩, h4⟩, h5⟩ := this
    exact ⟨⟨h1, h2, h3, h4⟩, h5⟩
  refine ⟨fun r hr => (key r hr).1.1, fun r hr => (key r hr).1.2.1, fun r hr => (key r hr).1.2.2.1, fun r hr => (key r hr).1.2.2.2, fun r hr hn => ?_, fun r hr hn => ?_⟩
  · have := (key r hr).2
    rw [decide_eq_true hn, cond_true] at this
    exact beq_iff_eq.1 this
  · have := (key r hr).2
    rw [decide_eq_false (by omega), cond_false] at this
    exact of_decide_eq_true this

section
variable {n0 nr : Nat} {σ τ : Nat → Nat} (hp : Perm n0 nr σ τ)
include hp
theorem at_ren (β : Places) {r : Nat} (hr : r < nr) (o : Nat) : at_ (fun r => β (τ r)) (σ r) o = at_ β r o := by
  simp only [at_, hp.back r hr]
theorem A0.rep_ren {a : A0} {v : Value} (h : a.rep s β nr v) : (a.ren σ).rep s (fun r => β (τ r)) nr v := by
  cases a with
  | ptr r o => exact ⟨by rw [at_ren hp β h.2]; exact h.1, hp.lt r h.2⟩
  | slc r o n c => exact ⟨by rw [at_ren hp β h.2]; exact h.1, hp.lt r h.2⟩
  | sl r o n =>
    obtain ⟨c, h1, h2, h3⟩ := h
    exact ⟨c, h1, by rw [at_ren hp β h3]; exact h2, hp.lt r h3⟩
  | sv r o n i => exact ⟨by rw [at_ren hp β h.2.2]; exact h.1, h.2.1, hp.lt r h.2.2⟩
  | sy r i => exact ⟨by rw [h.1, syV, syV, at_ren hp β h.2.1], hp.lt r h.2.1, h.2.2⟩
  | _ => exact h
theorem A0.conc_ren {a : A0} (h : ∃ v, a.rep s β nr v) : (a.ren σ).conc s (fun r => β (τ r)) = a.conc s β := by
  obtain ⟨v, h⟩ := h
  cases a with
  | ptr r o => simp only [A0.ren, A0.conc, at_ren hp β h.2]
  | slc r o n c => simp only [A0.ren, A0.conc, at_ren hp β h.2]
  | sl r o n => rfl
  | sv r o n i => simp only [A0.ren, A0.conc, at_ren hp β h.2.2]
  | sy r i => simp only [A0.ren, A0.conc, syV, at_ren hp β h.2.1]
  | _ => rfl
mutual
theorem AV.rep_ren : ∀ {a : AV} {v : Value}, a.rep s β nr v → (a.ren σ).rep s (fun r => β (τ r)) nr v
  | .one a, v, h => by
    rw [AV.ren, AV.rep] at *
    exact A0.rep_ren hp h
  | .two a b, v, h => by
    rw [AV.ren, AV.rep] at *
    obtain ⟨x, y, e, h1, h2⟩ := h
    exact ⟨x, y, e, A0.rep_ren hp h1, A0.rep_ren hp h2⟩
  | .agg l, v, h => by
    rw [AV.ren, AV.rep] at *
    obtain ⟨vs, e, hl, h⟩ := h
    refine ⟨vs, e, by simpa using hl, fun j a x ha hx => ?_⟩
    rw [List.getElem?_map] at ha
    cases hj : l[j]? with
    | none => rw [hj] at ha; cases ha
    | some b =>
      rw [hj] at ha
      cases ha
      exact A0.rep_ren hp (h j b x hj hx)
  | .tup l, v, h => by
    rw [AV.ren, AV.rep] at *
    obtain ⟨vs, e, h⟩ := h
    exact ⟨vs, e, AV.repL_ren h⟩
theorem AV.repL_ren : ∀ {l : List AV} {vs : List Value}, AV.repL s β nr l vs → AV.repL s (fun r => β (τ r)) nr (AV.renL σ l) vs
  | [], [], _ => trivial
  | x :: l, v :: m, h => ⟨AV.rep_ren h.1, AV.repL_ren h.2⟩
  | [], _ :: _, h => h.elim
  | _ :: _, [], h => h.elim
end
end

theorem Tr.get_ren (σ : Nat → Nat) : ∀ (t : Tr) (k : Nat), (t.ren σ).get k = (t.get k).map (AV.ren σ)
  | .nil, _ => rfl
  | .node none _ _, 0 => rfl
  | .node (some _) _ _, 0 => rfl
  | .node none l r, k + 1 => by
    simp only [Tr.ren, Tr.get]
    cases hb : (k % 2 == 0) <;> simp only [cond_true, cond_false]
    · exact Tr.get_ren σ r _
    · exact Tr.get_ren σ l _
  | .node (some v) l r, k + 1 => by
    simp only [Tr.ren, Tr.get]
    cases hb : (k % 2 == 0) <;> simp only [cond_true, cond_false]
    · exact Tr.get_ren σ r _
    · exact Tr.get_ren σ l _

theorem lookup_app {r : Nat} {l : List A0} {b : List (Nat × List A0)} : ∀ {a : List (Nat × List A0)}, lookup r (a ++ b) = some l → lookup r a = some l ∨ lookup r b = some l
  | [], h => .inr h
  | (q, m) :: a, h => by
    rw [List.cons_append, lookup] at h
    rw [lookup]
    cases hb : (q == r) with
    | true => rw [hb, cond_true] at h; rw [cond_true]; exact .inl h
    | false => rw [hb, cond_false] at h; rw [cond_false]; exact lookup_app h
theorem lookup_olds {n0 r : Nat} {σ : Nat → Nat} {l : List A0} : ∀ {m : List (Nat × List A0)}, lookup r ((m.filter fun x => decide (x.1 < n0)).map fun x => (x.1, x.2.map (A0.ren σ))) = some l → r < n0 ∧ ∃ k, lookup r m = some k ∧ l = k.map (A0.ren σ)
  | [], h => by cases h
  | (q, k) :: m, h => by
    rw [List.filter_cons] at h
    cases hq : decide (q < n0) with
    | true =>
      rw [if_pos hq, List.map_cons, lookup] at h
      rw [lookup]
      cases hb : (q == r) with
      | true =>
        rw [hb, cond_true] at h
        cases h
        exact ⟨by rw [← beq_iff_eq.1 hb]; exact of_decide_eq_true hq, k, rfl, rfl⟩
      | false => rw [hb, cond_false] at h; rw [cond_false]; exact lookup_olds h
    | false =>
      rw [if_neg (by simp only [hq]; exact Bool.false_ne_true)] at h
      obtain ⟨h1, h2⟩ := lookup_olds h
      refine ⟨h1, ?_⟩
      rw [lookup]
      have : (q == r) = false := by
        have := of_decide_eq_false hq
        rw [beq_eq_false_iff_ne]
        omega
      rw [this, cond_false]
      exact h2
theorem lookup_renMem {n0 nr r : Nat} {σ τ : Nat → Nat} (hp : Perm n0 nr σ τ) (hn : n0 ≤ nr) {m : List (Nat × List A0)} {l : List A0} (h : lookup r (renMem n0 nr σ τ m) = some l) :
    r < nr ∧ ∃ k, lookup (τ r) m = some k ∧ l = k.map (A0.ren σ) := by
  rcases lookup_app h with h | h
  · have := lookup_mem h
    obtain ⟨q, hq, h1⟩ := List.mem_filterMap.1 this
    have hq' : q < nr := List.mem_range.1 (List.mem_reverse.1 hq)
    cases hb : decide (q < n0) with
    | true => rw [hb, cond_true] at h1; cases h1
    | false =>
      rw [hb, cond_false] at h1
      split at h1
      · rename_i k hk
        cases h1
        exact ⟨hq', k, hk, rfl⟩
      · cases h1
  · obtain ⟨h1, k, h2, h3⟩ := lookup_olds h
    have hr : r < nr := by omega
    exact ⟨hr, k, by rw [hp.old r hr h1]; exact h2, h3⟩

theorem applyOut_ren {n0 nr nold : Nat} {σ τ : Nat → Nat} (hp : Perm n0 nr σ τ) (hn : n0 ≤ nr) (hno : nold ≤ n0) : ∀ {l : List (Nat × Nat × A0)}, (∀ e ∈ l, e.1 < nold ∧ ∃ v, e.2.2.rep s β nr v) →
    applyOut s (fun r => β (τ r)) w0 (l.map fun e => (e.1, e.2.1, e.2.2.ren σ)) = applyOut s β w0 l
  | [], _ => rfl
  | (r, o, x) :: l, h => by
    have h0 := h _ List.mem_cons_self
    have hr : r < nold := h0.1
    rw [List.map_cons]
    simp only [applyOut]
    rw [applyOut_ren hp hn hno fun e he => h e (List.mem_cons_of_mem _ he), A0.conc_ren hp h0.2]
    simp only [at_, hp.old r (by omega) (by omega)]

theorem Rel.canonBy {n0 : Nat} {σ τ : Nat → Nat} (h : Rel F s β w0 st a w) (hp : Perm n0 st.nr σ τ) (hn : n0 ≤ st.nr) (hno : F.nold ≤ n0) (hit : st.it = []) : Rel F s (fun r => β (τ r)) w0 (canonBy n0 σ τ st) a w := by
  have ho : ∀ r, r < F.nold → τ r = r := fun r hr => hp.old r (by omega) (by omega)
  have hnew : ∀ r, F.nold ≤ r → r < st.nr → F.nold ≤ τ r ∧ τ r < st.nr := fun r h1 h2 => by
    refine ⟨?_, hp.lt' r h2⟩
    by_cases hr : r < n0
    · rw [hp.old r h2 hr]; exact h1
    · have := hp.new r h2 (by omega)
      omega
  have hnp : ∀ r i j, F.np r = some (i, j) → r < F.nold ∧ Flag w0 (β (τ r)) (s i) (s j) := fun r i j hh => by
    obtain ⟨h1, h2⟩ := h.np r i j hh
    rw [ho r h1]
    exact ⟨h1, h2⟩
  refine { size := h.size, defs := h.defs, tm := ?_, mem := ?_, frz := ?_, fresh := ?_, dist := ?_, old := ?_, sep := ?_, nold := h.nold, outs := ?_, below := ?_, dec := h.dec, it := ?_, np := hnp }
  · intro t x hx
    have hx' : (st.tm.ren σ).get t = some x := hx
    rw [Tr.get_ren] at hx'
    cases hg : st.tm.get t with
    | none => rw [hg] at hx'; cases hx'
    | some y =>
      rw [hg] at hx'
      cases hx'
      exact AV.rep_ren hp (h.tm t y hg)
  · intro r l hl
    obtain ⟨hr, k, hk, rfl⟩ := lookup_renMem hp hn hl
    obtain ⟨_, hc⟩ := h.mem _ k hk
    refine ⟨hr, fun j x hx => ?_⟩
    rw [List.getElem?_map] at hx
    cases hj : k[j]? with
    | none => rw [hj] at hx; cases hx
    | some y =>
      rw [hj] at hx
      cases hx
      obtain ⟨v, h1, h2⟩ := hc j y hj
      exact ⟨v, h1, A0.rep_ren hp h2⟩
  · intro r l hl hw j hj
    obtain ⟨hr, k, hk, rfl⟩ := lookup_renMem hp hn hl
    rw [List.length_map] at hj
    refine h.frz _ k hk ?_ j hj
    by_cases h1 : F.nold ≤ r
    · exact .inl (hnew r h1 hr).1
    · rw [ho r (by omega)]
      exact hw
  · intro r h1 h2
    obtain ⟨h3, h4⟩ := hnew r h1 h2
    exact h.fresh _ h3 h4
  · intro r q h1 h2 h3 h4 hne
    obtain ⟨r1, r2⟩ := hnew r h1 h3
    obtain ⟨q1, q2⟩ := hnew q h2 h4
    refine h.dist _ _ r1 q1 r2 q2 fun e => hne ?_
    rw [← hp.forth r h3, ← hp.forth q h4, e]
  · intro r hr
    simp only [ho r hr]
    exact h.old r hr
  · intro r q hr hq hs
    simp only [ho r hr, ho q hq]
    exact h.sep r q hr hq hs
  · intro e he
    obtain ⟨x, hx, rfl⟩ := List.mem_map.1 he
    obtain ⟨h1, v, h2⟩ := h.outs x hx
    exact ⟨h1, v, A0.rep_ren hp h2⟩
  · have := applyOut_ren (w0 := w0) hp hn hno h.outs
    show Below w0.heap.size (applyOut s (fun r => β (τ r)) w0 (st.out.map fun e => (e.1, e.2.1, e.2.2.ren σ))) w
    rw [this]
    exact h.below
  · intro r b p hl
    have hl' : lookupI r st.it = some (b, p) := hl
    rw [hit] at hl'
    cases hl'

theorem canon_grows {n0 : Nat} {ops : Array Oper} {st st' : St} (h : canon n0 ops st = some st') : st'.exs = st.exs ∧ st'.nx = st.nx ∧ st'.nr = st.nr := by
  unfold canon at h
  split at h
  · cases h; exact ⟨rfl, rfl, rfl⟩
  · rename_i x al _
    cases hb : decide (x :: al = (List.range (al.length + 1)).map fun j => st.nr - (al.length + 1) + j) with
    | true => rw [hb, cond_true] at h; cases h; exact ⟨rfl, rfl, rfl⟩
    | false =>
      rw [hb, cond_false] at h
      obtain ⟨_, h⟩ := bif_some h
      cases h
      exact ⟨rfl, rfl, rfl⟩
theorem canon_rel {n0 : Nat} {ops : Array Oper} {st st' : St} (h : canon n0 ops st = some st') (hr : Rel F s β w0 st a w) (hn : n0 ≤ st.nr) (hno : F.nold ≤ n0) : ∃ β', Agree β β' n0 ∧ Rel F s β' w0 st' a w := by
  unfold canon at h
  split at h
  · cases h; exact ⟨β, Agree.refl _ _, hr⟩
  · rename_i x al _
    cases hb : decide (x :: al = (List.range (al.length + 1)).map fun j => st.nr - (al.length + 1) + j) with
    | true => rw [hb, cond_true] at h; cases h; exact ⟨β, Agree.refl _ _, hr⟩
    | false =>
      rw [hb, cond_false] at h
      obtain ⟨hc, h⟩ := bif_some h
      cases h
      rw [Bool.and_eq_true] at hc
      have hp := isPerm_spec hc.2
      have hit : st.it = [] := by
        have := hc.1
        cases hi : st.it with
        | nil => rfl
        | cons y l => rw [hi] at this; cases this
      exact ⟨_, fun r hr => by simp only [hp.old r (by omega) hr], hr.canonBy hp hn hno hit⟩

theorem drawn_grows (hT : T.Ok P) {L : Nat → Bool} {n0 : Nat} {m0 : List (Nat × List A0)} {ops : Array Oper} : ∀ {f : Nat} {listed : Array Bool} {st st' : St}, drawn T F L n0 m0 ops f listed st = some st' → Grows st st'
  | 0, listed, st, st', h => by
    rw [drawn] at h
    split at h
    · obtain ⟨h1, h2, h3⟩ := canon_grows h; exact ⟨⟨[], by rw [h1]; rfl, by rw [h2]; rfl⟩, by rw [h3]; exact Nat.le_refl _⟩
    · cases h
  | f + 1, listed, st, st', h => by
    rw [drawn] at h
    split at h
    · obtain ⟨h1, h2, h3⟩ := canon_grows h; exact ⟨⟨[], by rw [h1]; rfl, by rw [h2]; rfl⟩, by rw [h3]; exact Nat.le_refl _⟩
    · rename_i r rs _
      split at h
      · rename_i i st1 hi
        obtain ⟨_, o, _, _, _, h1⟩ := pickQuiet_spec hi
        exact (step_grows hT h1).trans (drawn_grows hT h)
      · have := agreed_spec h _ (List.mem_map.2 ⟨r, List.mem_cons_self, rfl⟩)
        split at this
        · split at this
          · rename_i h1
            obtain ⟨_, h2⟩ := bif_some this
            exact (step_grows hT h1).trans (drawn_grows hT h2)
          · cases this
        · cases this

/-- The worlds in which the regions that stay hold what was said of them at the start. -/
def Stay (s : Nums) (β0 : Places) (n0 : Nat) (L : Nat → Bool) (m0 : List (Nat × List A0)) (w : World) : Prop :=
  ∀ r l, L r = true → lookup r m0 = some l → CellsOk s β0 n0 r l w

theorem CellsOk.back {β0 β : Places} {n0 n r : Nat} {l : List A0} (hag : Agree β0 β n0) (hr : r < n0) (hdef : ∀ x ∈ l, ∀ v, x.rep s β n v → x.rep s β0 n0 v) (h : CellsOk s β n r l w) : CellsOk s β0 n0 r l w := by
  intro j x hx
  obtain ⟨v, h1, h2⟩ := h j x hx
  refine ⟨v, ?_, hdef x (List.mem_of_getElem? hx) v h2⟩
  rw [at_, hag r hr] at h1
  exact h1

theorem drawn_wp (hT : T.Ok P) {L : Nat → Bool} {ops : Array Oper} {Q : Exit → Act → World → Prop} {β0 : Places} {n0 : Nat} {m0 : List (Nat × List A0)}
    (hm0 : ∀ r l, lookup r m0 = some l → r < n0 ∧ ∀ x ∈ l, (∀ q o, x = .ptr q o → q < n0) ∧ (∀ q o m c, x = .slc q o m c → q < n0) ∧ (∀ q o m, x = .sl q o m → q < n0) ∧ (∀ q o m i, x = .sv q o m i → q < n0) ∧ ∀ q i, x = .sy q i → q < n0) (hL0 : ∀ r, L r = true → ∃ l, lookup r m0 = some l) (hsel : Region.noSelect ops = true)
    (hQ : ∀ (d : Option Tmp) v c a w, Q (.panic c) (Act.put a d v) w → Q (.panic c) a w) (hno : F.nold ≤ n0) :
    ∀ {f : Nat} {listed : Array Bool} {β : Places} {st st' : St} {a : Act} {w : World}, Rel F s β w0 st a w → drawn T F L n0 m0 ops f listed st = some st' → Holds s st'.nx st'.exs →
    Agree β0 β n0 → n0 ≤ st.nr → keeps L m0 st.mem = true → (∀ r, L r = true → lookup r st.mem = lookup r m0) →
    (∀ β' a' w', Agree β0 β' n0 → Rel F s β' w0 st' a' w' → Q .normal a' w') → wpAnyH P .any ops Q (Stay s β0 n0 L m0) f listed a w := by
  -- the state says of the regions that stay what was said of them
  have stay : ∀ {β : Places} {st : St} {a : Act} {w : World}, Rel F s β w0 st a w → Agree β0 β n0 → n0 ≤ st.nr → keeps L m0 st.mem = true → Stay s β0 n0 L m0 w := by
    intro β st a w h hag hn hk r l hL hl
    obtain ⟨hr, hp⟩ := hm0 r l hl
    obtain ⟨_, hc⟩ := h.mem r l (keeps_spec hk hL hl)
    refine CellsOk.back hag hr (fun x hx v hv => ?_) hc
    cases x with
    | any => trivial
    | lit u => exact hv
    | num k i => exact hv
    | bit k i => exact hv
    | limb i k => exact hv
    | ptr q o =>
      have hq := (hp _ hx).1 q o rfl
      refine ⟨?_, hq⟩
      rw [hv.1, at_, at_, hag q hq]
    | slc q o m c =>
      have hq := (hp _ hx).2.1 q o m c rfl
      refine ⟨?_, hq⟩
      rw [hv.1, at_, at_, hag q hq]
    | l32 i k => exact hv
    | bl i => exact hv
    | dig i k => exact hv
    | byt i k => exact hv
    | sg i => exact hv
    | err => exact hv
    | ac => exact hv
    | sy q i =>
      have hq := (hp _ hx).2.2.2.2 q i rfl
      exact ⟨by rw [hv.1, syV, syV, at_, at_, hag q hq], hq, hv.2.2⟩
    | sl q o m =>
      have hq := (hp _ hx).2.2.1 q o m rfl
      obtain ⟨c, h1, h2, _⟩ := hv
      refine ⟨c, h1, ?_, hq⟩
      rw [h2, at_, at_, hag q hq]
    | sv q o m i =>
      have hq := (hp _ hx).2.2.2.1 q o m i rfl
      refine ⟨?_, hv.2.1, hq⟩
      rw [hv.1, at_, at_, hag q hq]
  have reads : ∀ {β : Places} {st : St}, Agree β0 β n0 → n0 ≤ st.nr → (∀ r, L r = true → lookup r st.mem = lookup r m0) → ∀ w, Stay s β0 n0 L m0 w → Reads s β st.nr L st.mem w := by
    intro β st hag hn hsame w hw r l hL hl
    rw [hsame r hL] at hl
    intro j x hx
    obtain ⟨v, h1, h2⟩ := hw r l hL hl j x hx
    refine ⟨v, ?_, A0.rep_mono hag hn h2⟩
    rw [at_, hag r (hm0 r l hl).1]
    exact h1
  intro f
  induction f with
  | zero =>
    intro listed β st st' a w h hd hH hag hn hk hsame hnext
    rw [drawn] at hd
    split at hd
    · rename_i hr
      obtain ⟨β', g1, g2⟩ := canon_rel hd h hn hno
      exact ⟨hr, hnext β' a w (hag.trans g1 (Nat.le_refl _)) g2⟩
    · cases hd
  | succ f ih =>
    intro listed β st st' a w h hd hH hag hn hk hsame hnext
    rw [drawn] at hd
    split at hd
    · rename_i hr
      obtain ⟨β', g1, g2⟩ := canon_rel hd h hn hno
      exact wpAnyH_done hr (hnext β' a w (hag.trans g1 (Nat.le_refl _)) g2) _
    · rename_i r0 rs0 hne
      split at hd
      · rename_i i st1 hi
        obtain ⟨hmem, o, ho, hq, hfree, h1⟩ := pickQuiet_spec hi
        rw [← hne] at hmem
        have hg := drawn_grows hT hd
        have hH1 := hg.le.holds hH
        have hS := stay h hag hn hk
        rcases step_cases h1 with ⟨hw, ⟨_, v, l, hl, h1'⟩ | ⟨hq', _⟩⟩ | ⟨hw, h1'⟩
        · obtain ⟨e1, e2, e3, e4⟩ := put_st h1'
          rw [e1, e2] at hH1
          obtain ⟨x, hx, hrun⟩ := quiet_rep hT h.dec hl h.tm hH1 (reads hag hn hsame w hS)
          have hrel := (h.nums _ _).put h1' hx
          refine wpAnyH_take ho hsel hfree (by simpa using hmem) (fun c a w => hQ _ _ c a w) (.inl ⟨wants_rep h hw, fun w' hw' => hrun w' (reads hag hn hsame w' hw')⟩) hS ?_
          refine ih hrel hd hH hag (by rw [e3]; exact hn) (by rw [e4]; exact hk) (fun r hr => by rw [e4]; exact hsame r hr) (fun β' a' w' g1 g3 => hnext β' a' w' g1 g3)
        · rw [hq] at hq'
          cases hq'
        · obtain ⟨e1, e2, e3, e4⟩ := put_st h1'
          have hrel := h.put h1' (x := undef) rfl
          refine wpAnyH_take ho hsel hfree (by simpa using hmem) (fun c a w => hQ _ _ c a w) (.inr ⟨wants_rep h hw, rfl⟩) hS ?_
          refine ih hrel hd hH hag (by rw [e3]; exact hn) (by rw [e4]; exact hk) (fun r hr => by rw [e4]; exact hsame r hr) (fun β' a' w' g1 g3 => hnext β' a' w' g1 g3)
      · refine wpAnyH_all hne (by simp) fun j hj => ?_
        have hj' := agreed_spec hd _ (List.mem_map.2 ⟨j, hj, rfl⟩)
        split at hj'
        · rename_i o ho
          split at hj'
          · rename_i st1 h1
            obtain ⟨hkk, hd2⟩ := bif_some hj'
            have hg := drawn_grows hT hd2
            have hH1 := hg.le.holds hH
            unfold wpOp
            rw [ho]
            have fin : ∀ β' a' w', Agree β β' st.nr → Rel F s β' w0 st1 a' w' → Stay s β0 n0 L m0 w' ∧ wpAnyH P .any ops Q (Stay s β0 n0 L m0) f (listed.setIfInBounds j true) a' w' := fun β' a' w' hag' hr' => by
              have hag2 : Agree β0 β' n0 := hag.trans hag' hn
              have hn2 : n0 ≤ st1.nr := Nat.le_trans hn (step_grows hT h1).nr
              refine ⟨stay hr' hag2 hn2 hkk, ?_⟩
              refine ih hr' hd2 hH hag2 hn2 hkk (fun r hL => ?_) (fun β'' a'' w'' g1 g3 => hnext β'' a'' w'' g1 g3)
              obtain ⟨l, hl⟩ := hL0 r hL
              rw [hl]
              exact keeps_spec hkk hL hl
            rcases step_wants h1 with hw | ⟨hw, hp⟩
            · simp only [wants_rep h hw, if_true]
              exact .inl (step_wp hT h h1 hw hH1 fin)
            · simp only [wants_rep h hw, Bool.false_eq_true, if_false]
              exact fin β _ _ (Agree.refl _ _) (h.put hp (x := undef) rfl)
          · cases hj'
        · cases hj'

theorem keptIn_spec {m m' : List (Nat × List A0)} {r : Nat} (h : keptIn m m' r = true) : ∃ l, lookup r m = some l := by
  unfold keptIn at h
  split at h
  · rename_i l _ hl _; exact ⟨l, hl⟩
  · cases h

theorem keptIn_same {m m' : List (Nat × List A0)} : keeps (keptIn m m') m m = true → True := fun _ => trivial

theorem sameAll_refl_of {l m : List A0} (h : sameAll l m = true) : sameAll l l = true := by
  have := sameAll_eq h
  subst this
  exact h

theorem keeps_self {m m' : List (Nat × List A0)} : keeps (keptIn m m') m m = true := by
  refine List.all_eq_true.2 fun x _ => ?_
  cases h : keptIn m m' x.1 with
  | false => rfl
  | true =>
    have h' := h
    unfold keptIn at h'
    split at h'
    · rename_i l l' h1 h2
      simp only [Bool.not_true, Bool.false_or, h1]
      exact sameAll_refl_of h'
    · cases h'

/-- Only a normal end. -/
def Norm (Q : Exit → Act → World → Prop) : Exit → Act → World → Prop
  | .normal, a, w => Q .normal a w
  | _, _, _ => False
theorem Norm.imp {Q : Exit → Act → World → Prop} : ∀ e a w, Norm Q e a w → Q e a w := fun e a w h => by
  cases e with
  | normal => exact h
  | _ => exact h.elim

theorem region_grows (hT : T.Ok P) {ops : Array Oper} {draw : Bool} {st' : St} (h : region T F st ops draw = some st') : Grows st st' := by
  unfold region at h
  cases draw with
  | false => exact steps_grows hT h
  | true =>
    simp only [cond_true] at h
    obtain ⟨_, h2⟩ := bif_some h
    split at h2
    · exact drawn_grows hT h2
    · cases h2

theorem drew_rel (h : Rel F s β w0 st a w) : Rel F s β w0 st a { w with drawn := w.drawn + 1 } :=
  ⟨h.size, h.defs, h.tm, h.mem, h.frz, h.fresh, h.dist, h.old, h.sep, h.nold, h.outs, ⟨h.below.os, h.below.tape, h.below.output, h.below.size, h.below.block⟩, h.dec, h.it, h.np⟩

theorem region_wp (hT : T.Ok P) {id : Nat} {ops : Array Oper} {draw : Bool} {Q : Exit → Act → World → Prop} {st' : St} (h : Rel F s β w0 st a w) (hr : region T F st ops draw = some st') (hH : Holds s st'.nx st'.exs)
    (hn : ∀ β' a' w', Agree β β' st.nr → Rel F s β' w0 st' a' w' → Q .normal a' w') : (Code.region id ops draw).wp P Q a w := by
  unfold region at hr
  cases draw with
  | false => exact wp_region_list (steps_wp hT h hr hH hn)
  | true =>
    simp only [cond_true] at hr
    obtain ⟨hsel, h2⟩ := bif_some hr
    split at h2
    · rename_i st1 h1
      refine wp_mono (Q := Norm Q) ?_ Norm.imp
      refine wp_region_held (S := Stay s β st.nr (keptIn st.mem st1.mem) st.mem) hT.mixed ?_
      refine drawn_wp hT ?_ (fun r hL => keptIn_spec hL) hsel (fun d v c a w hh => hh.elim) h.nold (drew_rel h) h2 hH (Agree.refl _ _) (Nat.le_refl _) keeps_self (fun _ _ => rfl) (fun β' a' w' g2 g3 => hn β' a' w' g2 g3)
      intro r l hl
      obtain ⟨hrn, hc⟩ := h.mem r l hl
      refine ⟨hrn, fun x hx => ?_⟩
      obtain ⟨j, hj⟩ := List.getElem?_of_mem hx
      obtain ⟨v, _, hv⟩ := hc j x hj
      refine ⟨fun q o e => ?_, fun q o m c e => ?_, fun q o m e => ?_, fun q o m i e => ?_, fun q i e => ?_⟩ <;> subst e
      · exact hv.2
      · exact hv.2
      · obtain ⟨_, _, _, h⟩ := hv
        exact h
      · exact hv.2.2
      · exact hv.2.1
    · cases h2

/-! ### a whole body -/
def Out.toExit : Out → Exit
  | .normal => .normal
  | .ret => .ret
  | .exit id => .exit id

theorem run_grows (hT : T.Ok P) : ∀ {f : Nat} {c : Code} {st st' : St} {o : Out}, run T F f c st = some (o, st') → Grows st st'
  | 0, c, st, st', o, h => by cases c <;> cases h
  | f + 1, .skip, st, st', o, h => by rw [run] at h; cases h; exact .refl _
  | f + 1, .region _ ops draw, st, st', o, h => by
    rw [run] at h
    split at h
    · rename_i h1; cases h; exact region_grows hT h1
    · cases h
  | f + 1, .seq x y, st, st', o, h => by
    rw [run] at h
    split at h
    · rename_i h1; exact (run_grows hT h1).trans (run_grows hT h)
    · rename_i _ h1; cases h; exact run_grows hT h1
    · cases h
  | f + 1, .cond c x y, st, st', o, h => by
    rw [run] at h
    split at h
    · exact run_grows hT h
    · exact run_grows hT h
    · cases h
  | f + 1, .block id c, st, st', o, h => by
    rw [run] at h
    split at h
    · rename_i i st1 h1
      cases hb : (i == id) with
      | true => rw [hb, cond_true] at h; cases h; exact run_grows hT h1
      | false => rw [hb, cond_false] at h; cases h; exact run_grows hT h1
    · exact run_grows hT h
  | f + 1, .loop c, st, st', o, h => by
    rw [run] at h
    split at h
    · rename_i h1; exact (run_grows hT h1).trans (run_grows hT h)
    · exact run_grows hT h
  | f + 1, .exit id, st, st', o, h => by rw [run] at h; cases h; exact .refl _
  | f + 1, .ret, st, st', o, h => by rw [run] at h; cases h; exact .refl _
  | f + 1, .rangeFunc .., st, st', o, h => by cases h
  | f + 1, .scope .., st, st', o, h => by cases h
  | f + 1, .label .., st, st', o, h => by cases h
  | f + 1, .goto .., st, st', o, h => by cases h
  | f + 1, .refuse .., st, st', o, h => by cases h

/-- What the executor's run of a code says. -/
def Right (P : Program) (T : Tab) (F : Fix) (s : Nums) (w0 : World) (f : Nat) : Prop :=
  ∀ {c : Code} {β : Places} {st st' : St} {o : Out} {a : Act} {w : World} {Q : Exit → Act → World → Prop}, Rel F s β w0 st a w → run T F f c st = some (o, st') → Holds s st'.nx st'.exs →
    (∀ β' a' w', Agree β β' st.nr → Rel F s β' w0 st' a' w' → Q o.toExit a' w') → c.wp P Q a w
def RightLoop (P : Program) (T : Tab) (F : Fix) (s : Nums) (w0 : World) (f : Nat) : Prop :=
  ∀ {c : Code} {β : Places} {st st' : St} {o : Out} {a : Act} {w : World} {Q : Exit → Act → World → Prop}, Rel F s β w0 st a w → run T F f (.loop c) st = some (o, st') → Holds s st'.nx st'.exs →
    (∀ β' a' w', Agree β β' st.nr → Rel F s β' w0 st' a' w' → Q o.toExit a' w') → Code.rounds P c Q f a w

theorem right_loop (hT : T.Ok P) {f : Nat} (hA : Right P T F s w0 f) (hB : RightLoop P T F s w0 f) : RightLoop P T F s w0 (f + 1) := by
  intro c β st st' o a w Q hr h hH hn
  rw [run] at h
  show c.wp P (Exit.then (Code.rounds P c Q f) Q) a w
  split at h
  · rename_i st1 h1
    have hg := run_grows hT h
    refine hA hr h1 (hg.le.holds hH) fun β1 a1 w1 hag hr1 => ?_
    exact hB hr1 h hH fun β' a' w' hag' hr' => hn β' a' w' (hag.trans hag' (run_grows hT h1).nr) hr'
  · rename_i hne
    refine hA hr h hH fun β1 a1 w1 hag hr1 => ?_
    have := hn β1 a1 w1 hag hr1
    cases o with
    | normal => exact absurd h (hne st')
    | ret => exact this
    | exit id => exact this

theorem right_next (hT : T.Ok P) {f : Nat} (hA : Right P T F s w0 f) (hB : RightLoop P T F s w0 (f + 1)) : Right P T F s w0 (f + 1) := by
  intro c β st st' o a w Q hr h hH hn
  cases c with
  | skip => rw [run] at h; cases h; exact wp_skip (hn β a w (Agree.refl _ _) hr)
  | region id ops draw =>
    rw [run] at h
    split at h
    · rename_i h1; cases h; exact region_wp hT hr h1 hH hn
    · cases h
  | seq x y =>
    rw [run] at h
    refine wp_seq ?_
    split at h
    · rename_i st1 h1
      have hg := run_grows hT h
      refine hA hr h1 (hg.le.holds hH) fun β1 a1 w1 hag hr1 => ?_
      show y.wp P Q a1 w1
      exact hA hr1 h hH fun β' a' w' hag' hr' => hn β' a' w' (hag.trans hag' (run_grows hT h1).nr) hr'
    · rename_i hne h1
      cases h
      refine hA hr h1 hH fun β1 a1 w1 hag hr1 => ?_
      have := hn β1 a1 w1 hag hr1
      cases o with
      | normal => exact absurd rfl hne
      | ret => exact this
      | exit id => exact this
    · cases h
  | cond c x y =>
    rw [run] at h
    split at h
    · rename_i hc
      exact wp_cond_true (truth_rep hr.dec hc (ev_rep hr.tm c)) (hA hr h hH hn)
    · rename_i hc
      exact wp_cond_false (truth_rep hr.dec hc (ev_rep hr.tm c)) (hA hr h hH hn)
    · cases h
  | block id c =>
    rw [run] at h
    refine wp_block ?_
    split at h
    · rename_i i st1 h1
      cases hb : (i == id) with
      | true =>
        rw [hb, cond_true] at h
        cases h
        refine hA hr h1 hH fun β1 a1 w1 hag hr1 => ?_
        have := beq_iff_eq.1 hb
        subst this
        show (if i = i then Q .normal a1 w1 else Q (.exit i) a1 w1)
        rw [if_pos rfl]
        exact hn β1 a1 w1 hag hr1
      | false =>
        rw [hb, cond_false] at h
        cases h
        refine hA hr h1 hH fun β1 a1 w1 hag hr1 => ?_
        show (if i = id then Q .normal a1 w1 else Q (.exit i) a1 w1)
        rw [if_neg (fun e => by rw [e, beq_self_eq_true] at hb; cases hb)]
        exact hn β1 a1 w1 hag hr1
    · rename_i hne
      refine hA hr h hH fun β1 a1 w1 hag hr1 => ?_
      have := hn β1 a1 w1 hag hr1
      cases o with
      | normal => exact this
      | ret => exact this
      | exit i => exact absurd h (hne i st')
  | loop c => exact wp_loop_rounds (f + 1) (hB hr h hH hn)
  | exit id => rw [run] at h; cases h; exact wp_exit (hn β a w (Agree.refl _ _) hr)
  | ret => rw [run] at h; cases h; exact wp_ret (hn β a w (Agree.refl _ _) hr)
  | rangeFunc => cases h
  | scope => cases h
  | label => cases h
  | goto => cases h
  | refuse => cases h

theorem run_right (hT : T.Ok P) : ∀ f, Right P T F s w0 f ∧ RightLoop P T F s w0 f
  | 0 => by
    refine ⟨?_, ?_⟩
    · intro c β st st' o a w Q hr h _ _
      cases c <;> cases h
    · intro c β st st' o a w Q hr h _ _
      cases h
  | f + 1 =>
    have h := run_right hT f
    have hB : RightLoop P T F s w0 (f + 1) := right_loop hT h.1 h.2
    ⟨@right_next _ _ _ _ _ hT _ h.1 @hB, @hB⟩

theorem run_wp (hT : T.Ok P) {f : Nat} {c : Code} {st' : St} {o : Out} {Q : Exit → Act → World → Prop} (hr : Rel F s β w0 st a w) (h : run T F f c st = some (o, st')) (hH : Holds s st'.nx st'.exs)
    (hn : ∀ β' a' w', Agree β β' st.nr → Rel F s β' w0 st' a' w' → Q o.toExit a' w') : c.wp P Q a w := (run_right hT f).1 hr h hH hn

/-- What a function hands back. -/
def resultOk (fn : Func) (o : Out) (res : Option Tmp) : Prop :=
  (o = .normal ∨ o = .ret) ∧ match res with
    | none => fn.results = #[]
    | some t => fn.results = #[.tmp t]

/-- A call, by the executor's run over the callee's body. -/
theorem calls_run (hT : T.Ok P) {g : FuncId} {fn : Func} {c : Code} {args : Array Value} {R : Ending → World → Prop} (hf : P.funcs[g]? = some fn) (hc : fn.body = some c)
    {f : Nat} {st' : St} {o : Out} {res : Option Tmp} (hres : resultOk fn o res)
    (hr : Rel F s β w0 st { tmps := args ++ Array.replicate (fn.ntmps - args.size) undef, defers := [] } w)
    (h : run T F f c st = some (o, st')) (hH : Holds s st'.nx st'.exs)
    (hn : ∀ β' a' w', Agree β β' st.nr → Rel F s β' w0 st' a' w' → R (.returned (match res with | none => .tuple #[] | some t => a'.tmps.getD t undef)) w') : Calls P g args w R := by
  refine calls_of_wp hf hc ?_
  refine run_wp hT hr h hH fun β' a' w' hag hr' => ?_
  have hR := hn β' a' w' hag hr'
  obtain ⟨ho, hres⟩ := hres
  rcases ho with rfl | rfl
  · cases res with
    | none => exact ⟨hr'.defs, _, by simp [results, hres], hR⟩
    | some t => exact ⟨hr'.defs, _, by simp [results, hres], hR⟩
  · cases res with
    | none => exact ⟨hr'.defs, _, by simp [results, hres], hR⟩
    | some t => exact ⟨hr'.defs, _, by simp [results, hres], hR⟩

/-- The same for a function of two results. -/
theorem calls_run2 (hT : T.Ok P) {g : FuncId} {fn : Func} {c : Code} {args : Array Value} {R : Ending → World → Prop} (hf : P.funcs[g]? = some fn) (hc : fn.body = some c)
    {f : Nat} {st' : St} {o : Out} {t u : Tmp} (ho : o = .normal ∨ o = .ret) (hres : fn.results = #[.tmp t, .tmp u])
    (hr : Rel F s β w0 st { tmps := args ++ Array.replicate (fn.ntmps - args.size) undef, defers := [] } w)
    (h : run T F f c st = some (o, st')) (hH : Holds s st'.nx st'.exs)
    (hn : ∀ β' a' w', Agree β β' st.nr → Rel F s β' w0 st' a' w' → R (.returned (.tuple #[a'.tmps.getD t undef, a'.tmps.getD u undef])) w') : Calls P g args w R := by
  refine calls_of_wp hf hc ?_
  refine run_wp hT hr h hH fun β' a' w' hag hr' => ?_
  have hR := hn β' a' w' hag hr'
  rcases ho with rfl | rfl
  · exact ⟨hr'.defs, _, results_tmp2 hres _ _ _, hR⟩
  · exact ⟨hr'.defs, _, results_tmp2 hres _ _ _, hR⟩

/-- From a call of a function with a body to its contract. -/
theorem meets_of_calls {g : FuncId} {fn : Func} {args : Array Value} {R : Value → World → Prop} (hf : P.funcs[g]? = some fn) (hb : fn.body.isNone = false) (hname : (fn.name == "runtime.NumGoroutine") = false)
    (h : Calls P g args w fun e w' => ∃ v, e = .returned v ∧ R v w') : Meets P g args w R := by
  intro o a next Q hn
  have hrun : (callFunc g args).run P w = .ok (.enter g args) w := by
    simp only [callFunc, Sem.run_bind, run_program, Result.andThen, hf, hname, hb, Bool.false_eq_true, if_false, Sem.run_pure]
  rw [hrun, Oper.upon_enter]
  refine Calls.mono h fun e w' ⟨v, he, hR⟩ => ?_
  subst he
  exact hn v w' hR

end
end P224
/- The executor: how a run begins, and that there are numbers as its list says. -/
namespace P224
open Go Go.RowKit

/-! ### numbers as the list says -/
def Wd.lt (n : Nat) : Wd → Bool
  | .v i => decide (i < n)
  | .c _ => true
  | .w i _ => decide (i < n)
  | .b i _ => decide (i < n)
def Ex.lt (n : Nat) : Ex → Bool
  | .mulh x y | .mull x y | .add _ x y | .mul _ x y | .and x y | .or x y | .fmul x y | .fadd x y | .fsub x y | .feq x y | .fne x y | .xor x y | .sub _ x y => x.lt n && y.lt n
  | .adds x y z | .addc x y z | .subs x y z | .subb x y z | .sel x y z => x.lt n && y.lt n && z.lt n
  | .not _ x | .shl _ _ x | .shr _ x | .low _ x | .finv x => x.lt n
  | .fcst _ => true
  | .op _ l => l.all (Wd.lt n)
def inScope : Nat → List Ex → Bool
  | _, [] => true
  | n, e :: l => e.lt (n - 1) && inScope (n - 1) l
def assign (s0 : Nums) : Nat → List Ex → Nums
  | _, [] => s0
  | n, e :: l => fun i => if i = n - 1 then e.val (assign s0 (n - 1) l) else assign s0 (n - 1) l i

theorem Wd.val_congr {s s' : Nums} {n : Nat} (h : ∀ i, i < n → s i = s' i) {x : Wd} (hx : x.lt n = true) : x.val s = x.val s' := by
  cases x with
  | v i => exact h i (of_decide_eq_true hx)
  | c n => rfl
  | w i k => show s i / 2 ^ (32 * k) % 2 ^ 32 = s' i / 2 ^ (32 * k) % 2 ^ 32; rw [h i (of_decide_eq_true hx)]
  | b i k => show by8 k (s i) = by8 k (s' i); rw [h i (of_decide_eq_true hx)]

theorem Wd.map_congr {s s' : Nums} {n : Nat} (h : ∀ i, i < n → s i = s' i) : ∀ {l : List Wd}, l.all (Wd.lt n) = true → l.map (Wd.val s) = l.map (Wd.val s')
  | [], _ => rfl
  | x :: l, hx => by
    simp only [List.all_cons, Bool.and_eq_true] at hx
    rw [List.map_cons, List.map_cons, Wd.val_congr h hx.1, Wd.map_congr h hx.2]
theorem Ex.val_congr {s s' : Nums} {n : Nat} (h : ∀ i, i < n → s i = s' i) {e : Ex} (he : e.lt n = true) : e.val s = e.val s' := by
  cases e <;> simp only [Ex.lt, Bool.and_eq_true] at he <;> simp only [Ex.val] <;> first
    | rw [Wd.val_congr h he.1.1, Wd.val_congr h he.1.2, Wd.val_congr h he.2]
    | rw [Wd.val_congr h he.1, Wd.val_congr h he.2]
    | rw [Wd.val_congr h he]
    | rw [Wd.map_congr h he]

theorem holds_congr {s s' : Nums} : ∀ {l : List Ex} {n : Nat}, (∀ i, i < n → s i = s' i) → l.length ≤ n → inScope n l = true → Holds s n l → Holds s' n l
  | [], _, _, _, _, _ => trivial
  | e :: l, n, h, hl, hs, hh => by
    simp only [inScope, Bool.and_eq_true] at hs
    simp only [List.length_cons] at hl
    refine ⟨?_, holds_congr (fun i hi => h i (by omega)) (by omega) hs.2 hh.2⟩
    rw [← h (n - 1) (by omega), hh.1]
    exact Ex.val_congr (fun i hi => h i (by omega)) hs.1

theorem assign_holds (s0 : Nums) : ∀ (l : List Ex) (n : Nat), l.length ≤ n → inScope n l = true → Holds (assign s0 n l) n l ∧ ∀ i, i < n - l.length → assign s0 n l i = s0 i
  | [], n, _, _ => ⟨trivial, fun _ _ => rfl⟩
  | e :: l, n, hl, hs => by
    have hs' := hs
    simp only [inScope, Bool.and_eq_true] at hs'
    simp only [List.length_cons] at hl ⊢
    obtain ⟨h1, h2⟩ := assign_holds s0 l (n - 1) (by omega) hs'.2
    have hlow : ∀ i, i < n - 1 → assign s0 (n - 1) l i = assign s0 n (e :: l) i := fun i hi => by
      show _ = if i = n - 1 then _ else _
      rw [if_neg (by omega)]
    refine ⟨⟨?_, holds_congr hlow (by omega) hs'.2 h1⟩, fun i hi => ?_⟩
    · show (if n - 1 = n - 1 then _ else _) = _
      rw [if_pos rfl]
      exact Ex.val_congr hlow hs'.1
    · rw [← hlow i (by omega)]
      exact h2 i (by omega)

theorem exists_nums (s0 : Nums) {l : List Ex} {n : Nat} (hl : l.length ≤ n) (hs : inScope n l = true) : ∃ s, Holds s n l ∧ ∀ i, i < n - l.length → s i = s0 i :=
  ⟨_, assign_holds s0 l n hl hs⟩

/-! ### the start -/
def tmOf : Nat → List AV → Tr → Tr
  | _, [], t => t
  | k, x :: l, t => tmOf (k + 1) l (Tr.set 12 t k x)

theorem tmOf_get : ∀ (l : List AV) (k : Nat) (t : Tr) (j : Nat), k + l.length < 4095 → (tmOf k l t).get j = if k ≤ j ∧ j < k + l.length then l[j - k]? else t.get j
  | [], k, t, j, _ => by
    rw [tmOf, if_neg (by simp only [List.length_nil]; omega)]
  | x :: l, k, t, j, h => by
    simp only [List.length_cons] at h
    rw [tmOf, tmOf_get l (k + 1) _ j (by omega)]
    by_cases h1 : j = k
    · subst h1
      rw [if_neg (by omega), if_pos (by simp only [List.length_cons]; omega), Nat.sub_self, List.getElem?_cons_zero]
      exact Tr.get_set_same 12 _ _ _ (by have : (2 : Nat) ^ 12 = 4096 := rfl; omega)
    · by_cases h2 : k + 1 ≤ j ∧ j < k + 1 + l.length
      · rw [if_pos h2, if_pos (by simp only [List.length_cons]; omega), show j - k = (j - (k + 1)) + 1 by omega, List.getElem?_cons_succ]
      · rw [if_neg h2, if_neg (by simp only [List.length_cons]; omega)]
        exact Tr.get_set_other 12 _ _ _ _ (fun e => h1 e.symm)

def startSt (args : List AV) (mem : List (Nat × List A0)) (nx nold : Nat) : St :=
  { tm := tmOf 0 args .nil, mem := mem, nx := nx, nr := nold, exs := [], out := [], it := [] }

/-- The beginning of a call: what is known of the arguments and of the regions that they lead to. -/
theorem rel_start {F : Fix} {s : Nums} {β : Places} {w : World} {args : List AV} {vals : List Value} {mem : List (Nat × List A0)} {nx ntmps : Nat}
    (hlen : vals.length = args.length) (hnt : ntmps = F.nt) (hle : args.length ≤ F.nt) (hsmall : args.length < 4095)
    (hargs : ∀ (j : Nat) (x : AV) (v : Value), args[j]? = some x → vals[j]? = some v → x.rep s β F.nold v)
    (hmem : ∀ r l, lookup r mem = some l → r < F.nold ∧ CellsOk s β F.nold r l w)
    (hfrz : ∀ r l, lookup r mem = some l → F.wr r = true → ∀ j, j < l.length → w.frozen? (at_ β r j) = false)
    (hold : ∀ r, r < F.nold → (β r).1 < w.heap.size)
    (hsep : ∀ r q, r < F.nold → q < F.nold → F.sep r q = true → (β r).1 ≠ (β q).1) (hdec : Dec F s)
    (hnp : ∀ r i j, F.np r = some (i, j) → r < F.nold ∧ Flag w (β r) (s i) (s j) := by
      intro r i j h
      exact absurd (show (none : Option (Nat × Nat)) = some (i, j) from h) (by simp)) :
    Rel F s β w (startSt args mem nx F.nold) { tmps := vals.toArray ++ Array.replicate (ntmps - vals.toArray.size) undef, defers := [] } w := by
  refine { size := ?_, defs := rfl, tm := ?_, mem := hmem, frz := ?_, fresh := ?_, dist := ?_, old := hold, sep := hsep, nold := Nat.le_refl _, outs := ?_, below := Below.refl _ _, dec := hdec, np := hnp, it := fun r b p hh => by cases hh }
  · simp; omega
  · intro t x hx
    have hx' : (tmOf 0 args .nil).get t = some x := hx
    rw [tmOf_get _ _ _ _ (by omega)] at hx'
    by_cases ht : 0 ≤ t ∧ t < 0 + args.length
    · rw [if_pos ht, Nat.sub_zero] at hx'
      have htv : t < vals.length := by omega
      refine hargs t x _ hx' ?_
      simp only [Array.getD_eq_getD_getElem?]
      rw [Array.getElem?_append_left (by simpa using htv)]
      simp [htv]
    · rw [if_neg ht] at hx'
      cases hx'
  · intro r l hl hr j hj
    rcases hr with hr | hr
    · have := (hmem r l hl).1
      omega
    · exact hfrz r l hl hr j hj
  · intro r h1 h2
    have : r < F.nold := h2
    omega
  · intro r q h1 _ h3 _ _
    have : r < F.nold := h3
    omega
  · intro e he
    cases he

end P224
