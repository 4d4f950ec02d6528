/- The executor is right: operations that change memory. -/
import Derived.Test.YtccmmkgiamcgeaaGE1
set_option linter.all false
namespace P224
open Go Go.RowKit
section
variable {P : Program} {T : Tab} {F : Fix} {s : Nums}

theorem setCells_append (b : Nat) : ∀ (vs us : List Value) (o : Nat) (w : World), w.setCells b o (vs ++ us) = (w.setCells b o vs).setCells b (o + vs.length) us
  | [], us, o, w => by simp [World.setCells]
  | v :: vs, us, o, w => by
    rw [List.cons_append, World.setCells, World.setCells, setCells_append b vs us, List.length_cons, Nat.add_right_comm, Nat.add_assoc]

theorem setCells_size (b : Nat) : ∀ (vs : List Value) (o : Nat) (w : World), (w.setCells b o vs).heap.size = w.heap.size
  | [], _, _ => rfl
  | v :: vs, o, w => by rw [World.setCells, setCells_size b vs]; simp [World.setCell]

theorem setCells_rest (b : Nat) : ∀ (vs : List Value) (o : Nat) (w : World), (w.setCells b o vs).os = w.os ∧ (w.setCells b o vs).tape = w.tape ∧ (w.setCells b o vs).output = w.output
  | [], _, _ => ⟨rfl, rfl, rfl⟩
  | v :: vs, o, w => by rw [World.setCells]; exact setCells_rest b vs _ _

theorem setCells_other (b k : Nat) (h : k ≠ b) : ∀ (vs : List Value) (o : Nat) (w : World), (w.setCells b o vs).heap[k]? = w.heap[k]?
  | [], _, _ => rfl
  | v :: vs, o, w => by rw [World.setCells, setCells_other b k h vs, Below.heap_setCell _ _ _ _ h]

theorem setCell_block {w X : World} (k : Nat) (h : w.heap[k]? = X.heap[k]?) (a : Addr) (v : Value) : (w.setCell a v).heap[k]? = (X.setCell a v).heap[k]? := by
  simp only [World.setCell, Array.getElem?_modify, h]

theorem setCells_block {k : Nat} (b : Nat) : ∀ (vs : List Value) (o : Nat) {w X : World}, w.heap[k]? = X.heap[k]? → (w.setCells b o vs).heap[k]? = (X.setCells b o vs).heap[k]?
  | [], _, _, _, h => h
  | v :: vs, o, w, X, h => by
    rw [World.setCells, World.setCells]
    exact setCells_block b vs (o + 1) (setCell_block k h _ _)

theorem below_setCells {n : Nat} {X w : World} (h : Below n X w) (b o : Nat) (vs : List Value) : Below n (X.setCells b o vs) (w.setCells b o vs) := by
  obtain ⟨a1, a2, a3⟩ := setCells_rest b vs o w
  obtain ⟨b1, b2, b3⟩ := setCells_rest b vs o X
  refine ⟨by rw [a1, b1, h.os], by rw [a2, b2, h.tape], by rw [a3, b3, h.output], by rw [setCells_size, setCells_size]; exact h.size, fun k hk => setCells_block b vs o (h.block k hk)⟩

theorem below_setCells_past {n : Nat} {X w : World} (h : Below n X w) {b : Nat} (hb : n ≤ b) (o : Nat) (vs : List Value) : Below n X (w.setCells b o vs) := by
  obtain ⟨a1, a2, a3⟩ := setCells_rest b vs o w
  refine ⟨by rw [a1, h.os], by rw [a2, h.tape], by rw [a3, h.output], by rw [setCells_size]; exact h.size, fun k hk => ?_⟩
  rw [setCells_other b k (by omega)]
  exact h.block k hk

/-! ### the stores into old memory -/
theorem applyOut_range (s : Nums) (β : Places) (w0 : World) (r : Nat) : ∀ (vs : List A0) (o : Nat) (l : List (Nat × Nat × A0)),
    applyOut s β w0 (outRange r o vs l) = (applyOut s β w0 l).setCells (β r).1 ((β r).2 + o) (vs.map (A0.conc s β))
  | [], _, _ => rfl
  | v :: vs, o, l => by
    rw [outRange, applyOut_range s β w0 r vs, List.map_cons, World.setCells]
    rfl

theorem applyOut_size (s : Nums) (β : Places) (w0 : World) : ∀ l, (applyOut s β w0 l).heap.size = w0.heap.size
  | [] => rfl
  | (r, o, x) :: l => by
    show (World.setCell _ _ _).heap.size = _
    simp only [World.setCell, Array.size_modify]
    exact applyOut_size s β w0 l

theorem applyOut_mono {s : Nums} {β β' : Places} {n m : Nat} (h : Agree β β' n) (hm : m ≤ n) (w0 : World) : ∀ l : List (Nat × Nat × A0),
    (∀ e ∈ l, e.1 < m ∧ ∃ v, e.2.2.rep s β n v) → applyOut s β' w0 l = applyOut s β w0 l
  | [], _ => rfl
  | (r, o, x) :: l, he => by
    obtain ⟨h1, v, h2⟩ := he (r, o, x) List.mem_cons_self
    rw [applyOut, applyOut, applyOut_mono h hm w0 l (fun e hm => he e (List.mem_cons_of_mem _ hm)), conc_mono h h2, at_, at_, h r (Nat.lt_of_lt_of_le h1 hm)]

variable {β : Places} {w0 : World} {st : St} {a : Act} {w : World}

theorem Rel.size_le (h : Rel F s β w0 st a w) : w0.heap.size ≤ w.heap.size := by
  have := h.below.size
  rwa [applyOut_size] at this

theorem Rel.block_lt (h : Rel F s β w0 st a w) {r : Nat} (hr : r < st.nr) : (β r).1 < w.heap.size := by
  by_cases hn : F.nold ≤ r
  · exact (h.fresh r hn hr).2.1
  · exact Nat.lt_of_lt_of_le (h.old r (by omega)) h.size_le

theorem lookup_memSet {r o q : Nat} {vs k : List A0} : ∀ {m : List (Nat × List A0)}, lookup q (memSet F r o vs m) = some k →
    (q = r ∧ ∃ l, lookup r m = some l ∧ k = setRange l o vs) ∨ (q ≠ r ∧ lookup q m = some k ∧ (F.nold ≤ r ∨ F.nold ≤ q ∨ F.sep r q = true))
  | (p, l) :: m, h => by
    simp only [memSet] at h
    cases hb : (p == r) with
    | true =>
      have hpr := beq_iff_eq.1 hb
      subst hpr
      rw [hb, cond_true, lookup] at h
      cases hq : (p == q) with
      | true =>
        have := beq_iff_eq.1 hq
        subst this
        rw [hq, cond_true] at h
        cases h
        exact .inl ⟨rfl, l, by rw [lookup, hq, cond_true], rfl⟩
      | false =>
        rw [hq, cond_false] at h
        have hne : p ≠ q := fun e => by rw [e, beq_self_eq_true] at hq; cases hq
        rcases lookup_memSet h with ⟨e, _⟩ | ⟨h1, h2, h3⟩
        · exact absurd e.symm hne
        · exact .inr ⟨h1, by rw [lookup, hq, cond_false]; exact h2, h3⟩
    | false =>
      rw [hb, cond_false] at h
      have hpr : p ≠ r := fun e => by rw [e, beq_self_eq_true] at hb; cases hb
      cases hc : (decide (F.nold ≤ r) || decide (F.nold ≤ p) || F.sep r p) with
      | true =>
        rw [hc, cond_true, lookup] at h
        cases hq : (p == q) with
        | true =>
          have := beq_iff_eq.1 hq
          subst this
          rw [hq, cond_true] at h
          cases h
          refine .inr ⟨hpr, by rw [lookup, hq, cond_true], ?_⟩
          simp only [Bool.or_eq_true, decide_eq_true_eq] at hc
          rcases hc with (h1 | h1) | h1
          · exact .inl h1
          · exact .inr (.inl h1)
          · exact .inr (.inr h1)
        | false =>
          rw [hq, cond_false] at h
          rcases lookup_memSet h with ⟨e, l', h2, h3⟩ | ⟨h1, h2, h3⟩
          · exact .inl ⟨e, l', by rw [lookup, hb, cond_false]; exact h2, h3⟩
          · exact .inr ⟨h1, by rw [lookup, hq, cond_false]; exact h2, h3⟩
      | false =>
        rw [hc, cond_false] at h
        rcases lookup_memSet h with ⟨e, l', h2, h3⟩ | ⟨h1, h2, h3⟩
        · exact .inl ⟨e, l', by rw [lookup, hb, cond_false]; exact h2, h3⟩
        · by_cases hqp : p = q
          · subst hqp
            exfalso
            rcases h3 with h4 | h4 | h4
            · simp [h4] at hc
            · simp [h4] at hc
            · simp [h4] at hc
          · have : (p == q) = false := by
              cases hx : (p == q) with
              | true => exact absurd (beq_iff_eq.1 hx) hqp
              | false => rfl
            exact .inr ⟨h1, by rw [lookup, this, cond_false]; exact h2, h3⟩

theorem setRange_get : ∀ (vs l : List A0) (o j : Nat), o + vs.length ≤ l.length → (setRange l o vs)[j]? = if o ≤ j ∧ j < o + vs.length then vs[j - o]? else l[j]?
  | [], l, o, j, _ => by
    rw [setRange, if_neg (by simp only [List.length_nil]; omega)]
  | v :: vs, l, o, j, h => by
    simp only [List.length_cons] at h
    rw [setRange, setRange_get vs (l.set o v) (o + 1) j (by simp; omega)]
    by_cases h1 : j = o
    · subst h1
      rw [if_neg (by omega), if_pos (by simp), Nat.sub_self, List.getElem?_set_self (by omega), List.getElem?_cons_zero]
    · by_cases h2 : o + 1 ≤ j ∧ j < o + 1 + vs.length
      · rw [if_pos h2, if_pos (by simp; omega), show j - o = (j - (o + 1)) + 1 by omega, List.getElem?_cons_succ]
      · rw [if_neg h2, if_neg (by simp; omega), List.getElem?_set_ne (by omega)]

theorem setRange_length : ∀ (vs l : List A0) (o : Nat), (setRange l o vs).length = l.length
  | [], _, _ => rfl
  | v :: vs, l, o => by rw [setRange, setRange_length vs]; simp

/-- Behind a write of a row, whatever else the writer has made anew. -/
theorem Rel.wrote (h : Rel F s β w0 st a w) {r o : Nat} {vs : List A0} {st' : St} (hw : write F st r o vs = some st') {w1 : World}
    (hb : Below w.heap.size (w.setCells (β r).1 ((β r).2 + o) (vs.map (A0.conc s β))) w1) (hv : ∀ x ∈ vs, x.rep s β st.nr (x.conc s β)) : Rel F s β w0 st' a w1 := by
  unfold write at hw
  split at hw
  · rename_i l hl
    obtain ⟨hd, h2⟩ := bif_some hw
    cases h2
    simp only [Bool.and_eq_true, Bool.or_eq_true, decide_eq_true_eq, List.all_eq_true] at hd
    obtain ⟨⟨hlen, hwr⟩, hdef⟩ := hd
    obtain ⟨hrn, hcl⟩ := h.mem r l hl
    have hrb := h.block_lt hrn
    have hsz : w.heap.size ≤ w1.heap.size := by have := hb.size; rwa [setCells_size] at this
    have cellOf : ∀ q, q < st.nr → ∀ j, w1.cell? (at_ β q j) = (w.setCells (β r).1 ((β r).2 + o) (vs.map (A0.conc s β))).cell? (at_ β q j) := fun q hq j =>
      hb.cell (h.block_lt hq)
    have apart : ∀ q, q < st.nr → q ≠ r → (F.nold ≤ r ∨ F.nold ≤ q ∨ F.sep r q = true) → (β q).1 ≠ (β r).1 := fun q hq hne hc => by
      by_cases h1 : F.nold ≤ r
      · by_cases h2 : F.nold ≤ q
        · exact h.dist q r h2 h1 hq hrn hne
        · have := h.old q (by omega)
          have := (h.fresh r h1 hrn).1
          omega
      · by_cases h2 : F.nold ≤ q
        · have := h.old r (by omega)
          have := (h.fresh q h2 hq).1
          omega
        · rcases hc with h3 | h3 | h3
          · exact absurd h3 h1
          · exact absurd h3 h2
          · exact (h.sep r q (by omega) (by omega) h3).symm
    refine { size := h.size, defs := h.defs, tm := h.tm, mem := ?_, frz := ?_, fresh := ?_, dist := h.dist, old := h.old, sep := h.sep, nold := h.nold, outs := ?_, below := ?_, dec := h.dec, it := ?_, np := h.np }
    · intro q k hk
      rcases lookup_memSet hk with ⟨rfl, l', hl', rfl⟩ | ⟨hne, hk', hc⟩
      · rw [hl] at hl'
        cases hl'
        refine ⟨hrn, fun j x hx => ?_⟩
        rw [setRange_get _ _ _ _ hlen] at hx
        rw [cellOf q hrn j]
        split at hx
        · rename_i hj
          have hx' := List.getElem?_eq_some_iff.1 hx
          obtain ⟨hjl, hjx⟩ := hx'
          refine ⟨x.conc s β, ?_, hv x (List.mem_of_getElem? hx)⟩
          have := World.cell?_setCells_in (β q).1 (vs.map (A0.conc s β)) ((β q).2 + o) w (fun i hi => by
            rw [List.length_map] at hi
            obtain ⟨y, hy⟩ : ∃ y, l[o + i]? = some y := ⟨l[o + i]'(by omega), List.getElem?_eq_getElem _⟩
            obtain ⟨v, hv1, _⟩ := hcl (o + i) y hy
            have e : at_ β q (o + i) = ⟨(β q).1, (β q).2 + o + i, none⟩ := by rw [at_, Nat.add_assoc]
            rw [← e, hv1]; rfl) (j - o) (by rw [List.length_map]; omega)
          have e : at_ β q j = ⟨(β q).1, (β q).2 + o + (j - o), none⟩ := by rw [at_]; congr 1; omega
          rw [e, this, List.getElem_map, hjx]
        · rename_i hj
          obtain ⟨v, hv1, hv2⟩ := hcl j x hx
          refine ⟨v, ?_, hv2⟩
          rw [World.cell?_setCells_out _ _ _ _ _ (fun _ _ => by rw [List.length_map, at_]; simp only; omega)]
          exact hv1
      · obtain ⟨hqn, hqc⟩ := h.mem q k hk'
        refine ⟨hqn, fun j x hx => ?_⟩
        obtain ⟨v, hv1, hv2⟩ := hqc j x hx
        refine ⟨v, ?_, hv2⟩
        rw [cellOf q hqn j, World.cell?_setCells_out _ _ _ _ _ (fun e _ => absurd e (apart q hqn hne hc))]
        exact hv1
    · intro q k hk hq j hj
      have hqn : q < st.nr := by
        rcases lookup_memSet hk with ⟨rfl, _⟩ | ⟨_, hk', _⟩
        · exact hrn
        · exact (h.mem q k hk').1
      rw [hb.frozen (p := at_ β q j) (h.block_lt hqn), World.frozen?_setCells]
      rcases lookup_memSet hk with ⟨rfl, l', hl', rfl⟩ | ⟨_, hk', _⟩
      · rw [setRange_length] at hj
        exact h.frz q l' hl' hq j hj
      · exact h.frz q k hk' hq j hj
    · intro q h1 h2
      have := h.fresh q h1 h2
      exact ⟨this.1, Nat.lt_of_lt_of_le this.2.1 hsz, this.2.2⟩
    · intro e he
      simp only at he
      by_cases h1 : F.nold ≤ r
      · simp only [h1, decide_true, cond_true] at he
        exact h.outs e he
      · simp only [h1, decide_false, cond_false] at he
        have key : ∀ (us : List A0) (o' : Nat) (acc : List (Nat × Nat × A0)), (∀ x ∈ us, x ∈ vs) → e ∈ outRange r o' us acc → e ∈ acc ∨ (e.1 = r ∧ e.2.2 ∈ vs) := by
          intro us
          induction us with
          | nil => intro o' acc _ hm; exact .inl hm
          | cons u us ih =>
            intro o' acc hsub hm
            rcases ih (o' + 1) _ (fun x hx => hsub x (List.mem_cons_of_mem _ hx)) hm with h3 | h3
            · rcases List.mem_cons.1 h3 with h4 | h4
              · subst h4; exact .inr ⟨rfl, hsub u List.mem_cons_self⟩
              · exact .inl h4
            · exact .inr h3
        rcases key vs o st.out (fun x hx => hx) he with h3 | ⟨h3, h4⟩
        · exact h.outs e h3
        · exact ⟨by omega, _, hv _ h4⟩
    · show Below w0.heap.size (applyOut s β w0 (bif decide (F.nold ≤ r) then st.out else outRange r o vs st.out)) w1
      by_cases h1 : F.nold ≤ r
      · simp only [h1, decide_true, cond_true]
        exact (below_setCells_past h.below (h.fresh r h1 hrn).1 _ _).trans (hb.mono h.size_le)
      · simp only [h1, decide_false, cond_false]
        rw [applyOut_range]
        exact (below_setCells h.below _ _ _).trans (hb.mono h.size_le)
    · intro q b' p hq
      obtain ⟨i1, i2, i3, i4⟩ := h.it q b' p hq
      have hne : q ≠ r := by
        intro e
        subst e
        rw [i3] at hl
        cases hl
      refine ⟨i1, i2, ?_, ?_⟩
      · cases hm : lookup q (memSet F r o vs st.mem) with
        | none => rfl
        | some k =>
          rcases lookup_memSet hm with ⟨e, _⟩ | ⟨_, hk, _⟩
          · exact absurd e hne
          · rw [i3] at hk
            cases hk
      · rw [hb.block _ (h.block_lt i2), setCells_other _ _ ?_]
        · exact i4
        · exact apart q i2 hne (by
            by_cases hr' : F.nold ≤ r
            · exact .inl hr'
            · exact .inr (.inl i1))
  · cases hw

end
end P224
/- The executor is right: new variables, stores, calls; one operation; a row of operations. -/
namespace P224
open Go Go.RowKit
section
variable {P : Program} {T : Tab} {F : Fix} {s : Nums} {β : Places} {w0 : World} {st : St} {a : Act} {w : World}

/-- The state but for its list of numbers. -/
theorem Rel.nums (h : Rel F s β w0 st a w) (nx : Nat) (exs : List Ex) : Rel F s β w0 { st with nx := nx, exs := exs } a w :=
  ⟨h.size, h.defs, h.tm, h.mem, h.frz, h.fresh, h.dist, h.old, h.sep, h.nold, h.outs, h.below, h.dec, h.it, h.np⟩

theorem Rel.reads (h : Rel F s β w0 st a w) (L : Nat → Bool) : Reads s β st.nr L st.mem w := fun r l _ hl => (h.mem r l hl).2

/-- Behind what has changed no old memory. -/
theorem Rel.kept (h : Rel F s β w0 st a w) {w1 : World} (hb : Below w.heap.size w w1) : Rel F s β w0 st a w1 := by
  refine ⟨h.size, h.defs, h.tm, ?_, ?_, ?_, h.dist, h.old, h.sep, h.nold, h.outs, h.below.trans (hb.mono h.size_le), h.dec, fun r b p hh => ?_, h.np⟩
  · intro r l hl
    obtain ⟨hr, hc⟩ := h.mem r l hl
    refine ⟨hr, fun j x hx => ?_⟩
    obtain ⟨v, h1, h2⟩ := hc j x hx
    exact ⟨v, by rw [hb.cell (p := at_ β r j) (h.block_lt hr)]; exact h1, h2⟩
  · intro r l hl hw j hj
    rw [hb.frozen (p := at_ β r j) (h.block_lt (h.mem r l hl).1)]
    exact h.frz r l hl hw j hj
  · intro r h1 h2
    have := h.fresh r h1 h2
    exact ⟨this.1, Nat.lt_of_lt_of_le this.2.1 hb.size, this.2.2⟩
  · obtain ⟨i1, i2, i3, i4⟩ := h.it r b p hh
    exact ⟨i1, i2, i3, by rw [hb.block _ (h.block_lt i2)]; exact i4⟩

/-- Behind a new variable. -/
theorem Rel.made (h : Rel F s β w0 st a w) (t : TypeId) {cells : List Value} {l : List A0} (hlen : l.length = cells.length)
    (hl : ∀ (j : Nat) (x : A0) (v : Value), l[j]? = some x → cells[j]? = some v → ∀ β', Agree β β' st.nr → x.rep s β' (st.nr + 1) v) (nx : Nat) (exs : List Ex) :
    ∃ β', Agree β β' st.nr ∧ β' st.nr = (w.heap.size, 0) ∧ Rel F s β' w0 { st with mem := (st.nr, l) :: st.mem, nr := st.nr + 1, nx := nx, exs := exs } a (w.alloc (.cells cells.toArray t (0, 0))) := by
  let β' : Places := fun r => if r = st.nr then (w.heap.size, 0) else β r
  have hag : Agree β β' st.nr := fun r hr => by simp only [β']; rw [if_neg (by omega)]
  have hnew : β' st.nr = (w.heap.size, 0) := by simp only [β', if_true]
  have hle : st.nr ≤ st.nr + 1 := Nat.le_succ _
  have hb : ∀ r, r < st.nr → β' r = β r := hag
  refine ⟨β', hag, hnew, ?_⟩
  refine { size := h.size, defs := h.defs, tm := fun t x hx => AV.rep_mono hag hle (h.tm t x hx), mem := ?_, frz := ?_, fresh := ?_, dist := ?_, old := ?_, sep := ?_, nold := Nat.le_trans h.nold hle, outs := ?_, below := ?_, dec := h.dec, it := ?_, np := h.npAgree hag }
  · intro r k hk
    simp only [lookup] at hk
    cases hq : (st.nr == r) with
    | true =>
      have := beq_iff_eq.1 hq
      subst this
      rw [hq, cond_true] at hk
      cases hk
      refine ⟨Nat.lt_succ_self _, fun j x hx => ?_⟩
      have hj := (List.getElem?_eq_some_iff.1 hx).1
      obtain ⟨v, hv⟩ : ∃ v, cells[j]? = some v := ⟨cells[j]'(by omega), List.getElem?_eq_getElem _⟩
      refine ⟨v, ?_, hl j x v hx hv _ hag⟩
      rw [at_, hnew]
      simp only [Nat.zero_add]
      rw [World.cell?_alloc_new]
      simpa using hv
    | false =>
      rw [hq, cond_false] at hk
      obtain ⟨hr, hc⟩ := h.mem r k hk
      refine ⟨Nat.lt_succ_of_lt hr, fun j x hx => ?_⟩
      obtain ⟨v, hv1, hv2⟩ := hc j x hx
      refine ⟨v, ?_, A0.rep_mono hag hle hv2⟩
      rw [at_, hb r hr, World.cell?_of_block (w := w) (Below.heap_alloc _ _ _ (h.block_lt hr))]
      exact hv1
  · intro r k hk hw j hj
    simp only [lookup] at hk
    cases hq : (st.nr == r) with
    | true =>
      have := beq_iff_eq.1 hq
      subst this
      rw [at_, hnew]
      exact World.frozen?_alloc_new _ _ _ _
    | false =>
      rw [hq, cond_false] at hk
      obtain ⟨hr, _⟩ := h.mem r k hk
      rw [at_, hb r hr, World.frozen?_of_block (w := w) (Below.heap_alloc _ _ _ (h.block_lt hr))]
      exact h.frz r k hk hw j hj
  · intro r h1 h2
    rw [World.size_alloc]
    simp only at h2
    by_cases hr : r < st.nr
    · rw [hb r hr]
      have := h.fresh r h1 hr
      exact ⟨this.1, by omega, this.2.2⟩
    · have : r = st.nr := by omega
      subst this
      rw [hnew]
      exact ⟨h.size_le, Nat.lt_succ_self _, rfl⟩
  · intro r q h1 h2 h3 h4 hne
    simp only at h3 h4
    by_cases hr : r < st.nr
    · by_cases hq : q < st.nr
      · rw [hb r hr, hb q hq]
        exact h.dist r q h1 h2 hr hq hne
      · have : q = st.nr := by omega
        subst this
        rw [hb r hr, hnew]
        have := h.block_lt hr
        simp only; omega
    · have : r = st.nr := by omega
      subst this
      have hq : q < st.nr := by omega
      rw [hb q hq, hnew]
      have := h.block_lt hq
      simp only; omega
  · intro r hr
    rw [hb r (Nat.lt_of_lt_of_le hr h.nold)]
    exact h.old r hr
  · intro r q hr hq hs
    rw [hb r (Nat.lt_of_lt_of_le hr h.nold), hb q (Nat.lt_of_lt_of_le hq h.nold)]
    exact h.sep r q hr hq hs
  · intro e he
    obtain ⟨h1, v, h2⟩ := h.outs e he
    exact ⟨h1, v, A0.rep_mono hag hle h2⟩
  · show Below w0.heap.size (applyOut s β' w0 st.out) _
    rw [applyOut_mono hag h.nold w0 st.out h.outs]
    exact h.below.alloc h.size_le _
  · intro r b p hh
    obtain ⟨i1, i2, i3, i4⟩ := h.it r b p hh
    refine ⟨i1, Nat.lt_succ_of_lt i2, ?_, ?_⟩
    · show lookup r ((st.nr, l) :: st.mem) = none
      rw [lookup, show (st.nr == r) = false from by rw [beq_eq_false_iff_ne]; omega, cond_false]
      exact i3
    · rw [hb r i2, Below.heap_alloc _ _ _ (h.block_lt i2)]
      exact i4

theorem write_nr {F : Fix} {st st' : St} {r o : Nat} {vs : List A0} (h : write F st r o vs = some st') : st'.nr = st.nr ∧ st'.nx = st.nx ∧ st'.exs = st.exs ∧ st'.tm = st.tm := by
  unfold write at h
  split at h
  · obtain ⟨_, h2⟩ := bif_some h
    cases h2
    exact ⟨rfl, rfl, rfl, rfl⟩
  · cases h

theorem elemAt_rep {i r o : Nat} (h : Rel F s β w0 st a w) (he : elemAt st.mem r o = some i) : ElemAt w (β r).1 ((β r).2 + o) (s i) ∧ s i < pq := by
  unfold elemAt at he
  split at he
  · rename_i i0 i1 i2 i3 hc
    obtain ⟨hb, h2⟩ := bif_some he
    cases h2
    simp only [Bool.and_eq_true, beq_iff_eq] at hb
    obtain ⟨⟨rfl, rfl⟩, rfl⟩ := hb
    obtain ⟨k, hk, _, _, hj⟩ := cellsAt_ok (nr := 0) hc
    obtain ⟨_, hcl⟩ := h.mem r k hk
    have get : ∀ j, j < 4 → ∀ x, [A0.limb i3 0, A0.limb i3 1, A0.limb i3 2, A0.limb i3 3][j]? = some x → ∃ v, w.cell? (at_ β r (o + j)) = some v ∧ x.rep s β st.nr v := fun j h4 x hx =>
      hcl (o + j) x (by rw [← hj j h4]; exact hx)
    refine ⟨fun j h4 => ?_, ?_⟩
    · obtain ⟨v, hv1, hv2⟩ := get j h4 (A0.limb i3 j) (by
        have : j = 0 ∨ j = 1 ∨ j = 2 ∨ j = 3 := by omega
        rcases this with rfl | rfl | rfl | rfl <;> rfl)
      rw [hv2.1, at_, ← Nat.add_assoc] at hv1
      exact hv1
    · obtain ⟨v, _, hv2⟩ := get 0 (by omega) _ rfl
      exact hv2.2
  · cases he

theorem room_of (h : Rel F s β w0 st a w) {r o n : Nat} {vs : List A0} {st' : St} (hw : write F st r o vs = some st') (hn : vs.length = n) :
    r < st.nr ∧ ∀ k, k < n → (∃ v, w.cell? ⟨(β r).1, (β r).2 + o + k, none⟩ = some v) ∧ w.frozen? ⟨(β r).1, (β r).2 + o + k, none⟩ = false := by
  unfold write at hw
  split at hw
  · rename_i l hl
    obtain ⟨hd, _⟩ := bif_some hw
    simp only [Bool.and_eq_true, Bool.or_eq_true, decide_eq_true_eq] at hd
    obtain ⟨⟨hlen, hwr⟩, _⟩ := hd
    obtain ⟨hr, hc⟩ := h.mem r l hl
    refine ⟨hr, fun k hk => ?_⟩
    have e : at_ β r (o + k) = ⟨(β r).1, (β r).2 + o + k, none⟩ := by rw [at_, Nat.add_assoc]
    obtain ⟨v, hv, _⟩ := hc (o + k) (l[o + k]'(by omega)) (List.getElem?_eq_getElem _)
    rw [← e]
    exact ⟨⟨v, hv⟩, h.frz r l hl hwr _ (by omega)⟩
  · cases hw

theorem limbs_conc (i : Nat) : (limbs i).map (A0.conc s β) = words (s i) := rfl
theorem limbs_rep {i : Nat} (h : s i < pq) {n : Nat} : ∀ x ∈ limbs i, x.rep s β n (x.conc s β) := by
  intro x hx
  simp only [limbs, List.mem_cons, List.not_mem_nil, or_false] at hx
  rcases hx with rfl | rfl | rfl | rfl <;> exact ⟨rfl, h⟩

theorem pq_pos : 0 < pq := by decide +kernel

/-- A call that leaves an element behind. -/
theorem after_elem (h : Rel F s β w0 st a w) {r o : Nat} {e : Ex} {st' : St} (hw : write F { st with nx := st.nx + 1, exs := e :: st.exs } r o (limbs st.nx) = some st')
    (he : s st.nx = e.val s) (hlt : e.val s < pq) {w1 : World} {q : Bool} {v : Value} (hv : q = false → v = ptrTo (β r).1 ((β r).2 + o)) (hb : Below w.heap.size (w.setCells (β r).1 ((β r).2 + o) (words (e.val s))) w1) :
    After F s β w0 a st st' (rv q r o) v w1 := by
  have h' := h.nums (st.nx + 1) (e :: st.exs)
  obtain ⟨hr, _⟩ := room_of h' hw rfl
  refine ⟨β, Agree.refl _ _, ?_, h'.wrote hw ?_ (limbs_rep (by rw [he]; exact hlt))⟩
  · cases q with
    | true => trivial
    | false => exact ⟨hv rfl, by rw [(write_nr hw).1]; exact hr⟩
  rw [limbs_conc, he]
  exact hb

/-- A call that hands back a new element. -/
theorem Rel.came (h : Rel F s β w0 st a w) {w1 : World} {b : Nat} (hb1 : w.heap.size ≤ b) (hb2 : b < w1.heap.size) (hbe : Below w.heap.size w w1) {l : List A0}
    (hl : ∀ (j : Nat) (x : A0), l[j]? = some x → ∃ v, w1.cell? ⟨b, j, none⟩ = some v ∧ ∀ β' n, x.rep s β' n v) (hfz : ∀ j, j < l.length → w1.frozen? ⟨b, j, none⟩ = false) (nx : Nat) (exs : List Ex) :
    ∃ β', Agree β β' st.nr ∧ β' st.nr = (b, 0) ∧ Rel F s β' w0 { st with mem := (st.nr, l) :: st.mem, nr := st.nr + 1, nx := nx, exs := exs } a w1 := by
  have hlt := fun r (hr : r < st.nr) => h.block_lt hr
  have hsz := h.size_le
  have h := h.kept hbe
  let β' : Places := fun r => if r = st.nr then (b, 0) else β r
  have hag : Agree β β' st.nr := fun r hr => by simp only [β']; rw [if_neg (by omega)]
  have hnew : β' st.nr = (b, 0) := by simp only [β', if_true]
  have hle : st.nr ≤ st.nr + 1 := Nat.le_succ _
  have hb : ∀ r, r < st.nr → β' r = β r := hag
  refine ⟨β', hag, hnew, ?_⟩
  refine { size := h.size, defs := h.defs, tm := fun t x hx => AV.rep_mono hag hle (h.tm t x hx), mem := ?_, frz := ?_, fresh := ?_, dist := ?_, old := ?_, sep := ?_, nold := Nat.le_trans h.nold hle, outs := ?_, below := ?_, dec := h.dec, it := ?_, np := h.npAgree hag }
  · intro r k hk
    simp only [lookup] at hk
    cases hq : (st.nr == r) with
    | true =>
      have := beq_iff_eq.1 hq
      subst this
      rw [hq, cond_true] at hk
      cases hk
      refine ⟨Nat.lt_succ_self _, fun j x hx => ?_⟩
      obtain ⟨v, hv, hr⟩ := hl j x hx
      refine ⟨v, ?_, hr _ _⟩
      rw [at_, hnew]
      simp only [Nat.zero_add]
      exact hv
    | false =>
      rw [hq, cond_false] at hk
      obtain ⟨hr, hc⟩ := h.mem r k hk
      refine ⟨Nat.lt_succ_of_lt hr, fun j x hx => ?_⟩
      obtain ⟨v, hv1, hv2⟩ := hc j x hx
      refine ⟨v, ?_, A0.rep_mono hag hle hv2⟩
      rw [at_, hb r hr]
      exact hv1
  · intro r k hk hw j hj
    simp only [lookup] at hk
    cases hq : (st.nr == r) with
    | true =>
      have := beq_iff_eq.1 hq
      subst this
      rw [hq, cond_true] at hk
      cases hk
      rw [at_, hnew]
      simp only [Nat.zero_add]
      exact hfz j hj
    | false =>
      rw [hq, cond_false] at hk
      obtain ⟨hr, _⟩ := h.mem r k hk
      rw [at_, hb r hr]
      exact h.frz r k hk hw j hj
  · intro r h1 h2
    simp only at h2
    by_cases hr : r < st.nr
    · rw [hb r hr]
      exact h.fresh r h1 hr
    · have : r = st.nr := by omega
      subst this
      rw [hnew]
      exact ⟨Nat.le_trans hsz hb1, hb2, rfl⟩
  · intro r q h1 h2 h3 h4 hne
    simp only at h3 h4
    by_cases hr : r < st.nr
    · by_cases hq : q < st.nr
      · rw [hb r hr, hb q hq]
        exact h.dist r q h1 h2 hr hq hne
      · have : q = st.nr := by omega
        subst this
        rw [hb r hr, hnew]
        have := hlt r hr
        simp only; omega
    · have : r = st.nr := by omega
      subst this
      have hq : q < st.nr := by omega
      rw [hb q hq, hnew]
      have := hlt q hq
      simp only; omega
  · intro r hr
    rw [hb r (Nat.lt_of_lt_of_le hr h.nold)]
    exact h.old r hr
  · intro r q hr hq hs
    rw [hb r (Nat.lt_of_lt_of_le hr h.nold), hb q (Nat.lt_of_lt_of_le hq h.nold)]
    exact h.sep r q hr hq hs
  · intro e he
    obtain ⟨h1, v, h2⟩ := h.outs e he
    exact ⟨h1, v, A0.rep_mono hag hle h2⟩
  · show Below w0.heap.size (applyOut s β' w0 st.out) _
    rw [applyOut_mono hag h.nold w0 st.out h.outs]
    exact h.below
  · intro r b' p hh
    obtain ⟨i1, i2, i3, i4⟩ := h.it r b' p hh
    refine ⟨i1, Nat.lt_succ_of_lt i2, ?_, ?_⟩
    · show lookup r ((st.nr, l) :: st.mem) = none
      rw [lookup, show (st.nr == r) = false from by rw [beq_eq_false_iff_ne]; omega, cond_false]
      exact i3
    · rw [hb r i2]
      exact i4

theorem by8_lt (k x : Nat) : by8 k x < 256 := Nat.mod_lt _ (by decide)
theorem digAt_rep {i r o : Nat} (h : Rel F s β w0 st a w) (he : digAt st.mem r o = some i) : DigAt w (β r).1 ((β r).2 + o) (s i) ∧ s i < pq := by
  unfold digAt at he
  split at he
  · rename_i i0 i1 i2 i3 hc
    obtain ⟨hb, h2⟩ := bif_some he
    cases h2
    simp only [Bool.and_eq_true, beq_iff_eq] at hb
    obtain ⟨⟨rfl, rfl⟩, rfl⟩ := hb
    obtain ⟨k, hk, _, _, hj⟩ := cellsAt_ok (nr := 0) hc
    obtain ⟨_, hcl⟩ := h.mem r k hk
    have get : ∀ j, j < 4 → ∀ x, [A0.dig i3 0, A0.dig i3 1, A0.dig i3 2, A0.dig i3 3][j]? = some x → ∃ v, w.cell? (at_ β r (o + j)) = some v ∧ x.rep s β st.nr v := fun j h4 x hx =>
      hcl (o + j) x (by rw [← hj j h4]; exact hx)
    refine ⟨fun j h4 => ?_, ?_⟩
    · obtain ⟨v, hv1, hv2⟩ := get j h4 (A0.dig i3 j) (by
        have : j = 0 ∨ j = 1 ∨ j = 2 ∨ j = 3 := by omega
        rcases this with rfl | rfl | rfl | rfl <;> rfl)
      rw [hv2.1, at_, ← Nat.add_assoc] at hv1
      exact hv1
    · obtain ⟨v, _, hv2⟩ := get 0 (by omega) _ rfl
      exact hv2.2
  · cases he

theorem isByts_spec {f : Nat → Nat} {i : Nat} : ∀ {l : List A0} {k : Nat}, isByts f i k l = true → ∀ (j : Nat) x, l[j]? = some x → x = .byt i (f (k + j))
  | [], _, _, j, x, hx => by simp at hx
  | y :: l, k, h, j, x, hx => by
    unfold isByts at h
    split at h
    · rename_i he; cases he
    · rename_i k' i' q l' he
      cases he
      simp only [Bool.and_eq_true, beq_iff_eq] at h
      obtain ⟨⟨rfl, rfl⟩, h3⟩ := h
      cases j with
      | zero => cases hx; rfl
      | succ j =>
        have := isByts_spec h3 j x (by simpa using hx)
        rw [this, Nat.add_assoc, Nat.add_comm 1 j]
    · cases h
theorem isZeros_spec : ∀ {l : List A0}, isZeros l = true → ∀ (j : Nat) x, l[j]? = some x → x = .lit (.int .u8 0)
  | [], _, j, x, hx => by simp at hx
  | y :: l, h, j, x, hx => by
    unfold isZeros at h
    split at h
    · rename_i he; cases he
    · rename_i n l' he
      cases he
      simp only [Bool.and_eq_true, decide_eq_true_eq] at h
      obtain ⟨rfl, h2⟩ := h
      cases j with
      | zero => cases hx; rfl
      | succ j => exact isZeros_spec h2 j x (by simpa using hx)
    · cases h
theorem bytAt_rep {f : Nat → Nat} {i r o : Nat} (h : Rel F s β w0 st a w) (he : bytAt f st.mem r o = some i) : (BytesAt w (β r).1 ((β r).2 + o) fun k => by8 (f k) (s i)) ∧ s i < pq := by
  unfold bytAt at he
  split at he
  · rename_i i0 q l hc
    obtain ⟨hb, h2⟩ := bif_some he
    cases h2
    have sp := isByts_spec hb
    obtain ⟨k, hk, hlen, _, hj⟩ := cellsAt_ok (nr := 0) hc
    obtain ⟨_, hcl⟩ := h.mem r k hk
    have get : ∀ j, j < 28 → ∃ v, w.cell? (at_ β r (o + j)) = some v ∧ (A0.byt i (f j)).rep s β st.nr v := fun j h4 => by
      have hx : ∃ x, (A0.byt i q :: l)[j]? = some x := ⟨(A0.byt i q :: l)[j]'(by omega), List.getElem?_eq_getElem _⟩
      obtain ⟨x, hx⟩ := hx
      have e := sp j x hx
      rw [Nat.zero_add] at e
      subst e
      exact hcl (o + j) _ (by rw [← hj j h4]; exact hx)
    refine ⟨fun j h4 => ⟨?_, by8_lt _ _⟩, ?_⟩
    · obtain ⟨v, hv1, hv2⟩ := get j h4
      rw [hv2.1, at_, ← Nat.add_assoc] at hv1
      exact hv1
    · obtain ⟨v, _, hv2⟩ := get 0 (by omega)
      exact hv2.2
  · cases he
theorem numAt_rep {r o : Nat} {x : Wd} (h : Rel F s β w0 st a w) (he : numAt st.mem r o = some x) : (BytesAt w (β r).1 ((β r).2 + o) fun k => by8 (27 - k) (x.val s)) ∧ x.val s < pq := by
  unfold numAt at he
  split at he
  · rename_i i hi
    cases he
    exact bytAt_rep h hi
  · split at he
    · rename_i l hc
      obtain ⟨hb, h2⟩ := bif_some he
      cases h2
      obtain ⟨k, hk, hlen, _, hj⟩ := cellsAt_ok (nr := 0) hc
      obtain ⟨_, hcl⟩ := h.mem r k hk
      refine ⟨fun j h4 => ⟨?_, by8_lt _ _⟩, pq_pos⟩
      obtain ⟨y, hy⟩ : ∃ y, l[j]? = some y := ⟨l[j]'(by omega), List.getElem?_eq_getElem _⟩
      obtain ⟨v, hv1, hv2⟩ := hcl (o + j) y (by rw [← hj j h4]; exact hy)
      have e := isZeros_spec hb j y hy
      subst e
      have hv2' : v = .int .u8 0 := hv2
      rw [hv2', at_, ← Nat.add_assoc] at hv1
      rw [hv1]
      show some (Value.int .u8 0) = some (.int .u8 (by8 (27 - j) 0 : Int))
      have : by8 (27 - j) 0 = 0 := by unfold by8; rw [Nat.zero_div]
      rw [this]
      rfl
    · cases he

/-- A call that leaves cells behind. -/
theorem after_write (h : Rel F s β w0 st a w) {r o : Nat} {vs : List A0} {st' : St} (hw : write F st r o vs = some st') (hr : ∀ x ∈ vs, x.rep s β st.nr (x.conc s β)) {w1 : World} {v : Value}
    (hb : Below w.heap.size (w.setCells (β r).1 ((β r).2 + o) (vs.map (A0.conc s β))) w1) : After F s β w0 a st st' (.one .any) v w1 :=
  ⟨β, Agree.refl _ _, trivial, h.wrote hw hb hr⟩
theorem digs_rep {i : Nat} (h : s i < pq) {n : Nat} : ∀ x ∈ digs i, x.rep s β n (x.conc s β) := by
  intro x hx
  simp only [digs, List.mem_cons, List.not_mem_nil, or_false] at hx
  rcases hx with rfl | rfl | rfl | rfl <;> exact ⟨rfl, h⟩
theorem byts_rep {f : Nat → Nat} {i : Nat} (h : s i < pq) {n : Nat} : ∀ x ∈ byts f i, x.rep s β n (x.conc s β) := by
  intro x hx
  obtain ⟨k, _, rfl⟩ := List.mem_map.1 hx
  exact ⟨rfl, h⟩
theorem byts_conc (f : Nat → Nat) (i : Nat) : (byts f i).map (A0.conc s β) = bytesRow fun k => by8 (f k) (s i) := by
  rw [byts, List.map_map]
  rfl

theorem bytes_mod {x y : Nat} : ∀ n : Nat, (∀ k, k < n → by8 k x = by8 k y) → x % 256 ^ n = y % 256 ^ n
  | 0, _ => by rw [Nat.pow_zero, Nat.mod_one, Nat.mod_one]
  | n + 1, h => by
    have h1 := bytes_mod n fun k hk => h k (by omega)
    have h2 : x / 256 ^ n % 256 = y / 256 ^ n % 256 := h n (by omega)
    rw [Nat.pow_succ, Nat.mod_mul, Nat.mod_mul, h1, h2]
theorem bytes_inj {x y : Nat} (hx : x < pq) (hy : y < pq) : (∀ k, k < 28 → by8 (27 - k) x = by8 (27 - k) y) ↔ x = y := by
  constructor
  · intro h
    have hp : pq < 256 ^ 28 := by decide +kernel
    have := bytes_mod (x := x) (y := y) 28 fun k hk => by
      have := h (27 - k) (by omega)
      rwa [show 27 - (27 - k) = k by omega] at this
    rwa [Nat.mod_eq_of_lt (Nat.lt_trans hx hp), Nat.mod_eq_of_lt (Nat.lt_trans hy hp)] at this
  · intro h k _
    rw [h]
theorem pq_lt224 : pq < 2 ^ 224 := by decide +kernel

theorem meets_upon {f : FuncId} {args : Array Value} {R : Value → World → Prop} (h : Meets P f args w R) {o : Oper} {next : Act → World → Prop} {Q : Exit → Act → World → Prop} (a : Act)
    (hn : ∀ v w', R v w' → next (a.put o.dst v) w') : o.upon P a next Q ((callFunc f args).run P w) := h o a next Q hn

theorem word_val {k : IntKind} {x : A0} {wd : Wd} {v : Value} {n : Nat} (hx : x.word k = some wd) (hr : x.rep s β n v) : v = .int k (wd.val s : Int) ∧ wd.val s < 2 ^ k.bits := word_rep hx hr

/-- A call by its contract. -/
theorem call_rep {f : FuncId} {p : Prim} (hp : PrimOk P f p) (h : Rel F s β w0 st a w) {args : List AV} {vals : List Value} {av : AV} {st' : St}
    (hc : callPrim F st p args = some (av, st')) (hl : vals.length = args.length) (hvals : ∀ (j : Nat) (x : AV) (v : Value), args[j]? = some x → vals[j]? = some v → x.rep s β st.nr v)
    (hH : Holds s st'.nx st'.exs) : Meets P f vals.toArray w fun v w' => After F s β w0 a st st' av v w' := by
  unfold callPrim at hc
  split at hc
  · -- mul64
    rename_i x y
    match vals, hl, hvals with
    | [u, v], _, hvals =>
    have hu := hvals 0 _ u rfl rfl
    have hv := hvals 1 _ v rfl rfl
    clear hvals
    split at hc
    · rename_i c d hx hy
      cases hc
      obtain ⟨rfl, h1⟩ := word_rep hx hu
      obtain ⟨rfl, h2⟩ := word_rep hy hv
      refine fun o a' next Q hn => hp _ _ w h1 h2 o a' next Q fun v w' ⟨hv, hw⟩ => hn _ _ ?_
      subst hv
      have e1 : s (st.nx + 1) = _ := hH.1
      have e2 : s st.nx = _ := hH.2.1
      refine ⟨β, Agree.refl _ _, ⟨_, _, rfl, ⟨by rw [e2]; rfl, ?_⟩, ⟨by rw [e1]; rfl, ?_⟩⟩, (h.nums _ _).kept hw⟩
      · rw [e2]
        exact Nat.div_lt_of_lt_mul (Nat.mul_lt_mul'' h1 h2)
      · rw [e1]
        exact Nat.mod_lt _ (Nat.two_pow_pos _)
    · cases hc
  · -- add64
    rename_i x y z
    match vals, hl, hvals with
    | [u, v, t], _, hvals =>
    have hu := hvals 0 _ u rfl rfl
    have ht := hvals 2 _ t rfl rfl
    have hv := hvals 1 _ v rfl rfl
    clear hvals
    split at hc
    · rename_i c d e hx hy hz
      cases hc
      obtain ⟨rfl, h1⟩ := word_rep hx hu
      obtain ⟨rfl, h2⟩ := word_rep hy hv
      obtain ⟨rfl, h3⟩ := carry_rep hz ht
      refine fun o a' next Q hn => hp _ _ _ w h1 h2 h3 o a' next Q fun v w' ⟨hv, hw⟩ => hn _ _ ?_
      subst hv
      have e1 : s (st.nx + 1) = _ := hH.1
      have e2 : s st.nx = _ := hH.2.1
      refine ⟨β, Agree.refl _ _, ⟨_, _, rfl, ⟨by rw [e2]; rfl, ?_⟩, ⟨by rw [e1]; rfl, ?_⟩⟩, (h.nums _ _).kept hw⟩
      · rw [e2]
        exact Nat.mod_lt _ (Nat.two_pow_pos _)
      · rw [e1]
        show (c.val s + d.val s + e.val s) / 2 ^ 64 ≤ 1
        rw [show IntKind.u64.bits = 64 from rfl] at h1 h2
        omega
    · cases hc
  · -- sub64
    rename_i x y z
    match vals, hl, hvals with
    | [u, v, t], _, hvals =>
    have hu := hvals 0 _ u rfl rfl
    have ht := hvals 2 _ t rfl rfl
    have hv := hvals 1 _ v rfl rfl
    clear hvals
    split at hc
    · rename_i c d e hx hy hz
      cases hc
      obtain ⟨rfl, h1⟩ := word_rep hx hu
      obtain ⟨rfl, h2⟩ := word_rep hy hv
      obtain ⟨rfl, h3⟩ := carry_rep hz ht
      refine fun o a' next Q hn => hp _ _ _ w h1 h2 h3 o a' next Q fun v w' ⟨hv, hw⟩ => hn _ _ ?_
      subst hv
      have e1 : s (st.nx + 1) = _ := hH.1
      have e2 : s st.nx = _ := hH.2.1
      refine ⟨β, Agree.refl _ _, ⟨_, _, rfl, ⟨by rw [e2]; rfl, ?_⟩, ⟨by rw [e1]; rfl, ?_⟩⟩, (h.nums _ _).kept hw⟩
      · rw [e2]
        exact Nat.mod_lt _ (Nat.two_pow_pos _)
      · rw [e1]
        show (if c.val s < d.val s + e.val s then 1 else 0) ≤ 1
        split <;> omega
    · cases hc
  · -- cmov
    rename_i r o c x y
    match vals, hl, hvals with
    | [pv, u, v, t], _, hvals =>
    have hpv := hvals 0 _ pv rfl rfl
    have hu := hvals 1 _ u rfl rfl
    have ht := hvals 3 _ t rfl rfl
    have hv := hvals 2 _ v rfl rfl
    clear hvals
    split at hc
    · rename_i wa wb wd hx hy hz
      split at hc
      · rename_i st1 hw
        cases hc
        obtain ⟨rfl, h1⟩ := carry_rep hx hu
        obtain ⟨rfl, h2⟩ := word_rep hy hv
        obtain ⟨rfl, h3⟩ := word_rep hz ht
        obtain ⟨rfl, hr⟩ := hpv
        have h' := h.nums (st.nx + 1) (.sel wa wb wd :: st.exs)
        obtain ⟨hnr, hnx, hex, _⟩ := write_nr hw
        obtain ⟨_, hroom⟩ := room_of h' hw rfl
        obtain ⟨⟨c0, hc0⟩, hf0⟩ := hroom 0 (by simp)
        rw [hnx, hex] at hH
        have e2 : s st.nx = _ := hH.1
        refine fun o' a' next Q hn => hp _ _ _ _ _ w (h.block_lt hr) h1 h2 h3 ⟨c0, hc0⟩ hf0 o' a' next Q fun v w' hw' => hn _ _ ?_
        refine ⟨β, Agree.refl _ _, trivial, h'.wrote hw ?_ ?_⟩
        · show Below w.heap.size (w.setCell _ (.int .u64 (s st.nx : Int))) _
          rw [e2]
          exact hw'
        · intro q hq
          simp only [List.mem_cons, List.not_mem_nil, or_false] at hq
          subst hq
          refine ⟨rfl, ?_⟩
          rw [e2]
          show (if wa.val s = 0 then wb.val s else wd.val s) < 2 ^ 64
          split
          · exact h2
          · exact h3
      · cases hc
    · cases hc
  · -- fmul
    rename_i q r o r1 o1 r2 o2
    match vals, hl, hvals with
    | [pv, u, v], _, hvals =>
    have hpv := hvals 0 _ pv rfl rfl
    have hu := hvals 1 _ u rfl rfl
    have hv := hvals 2 _ v rfl rfl
    clear hvals
    split at hc
    · rename_i i j hi hj
      split at hc
      · rename_i st1 hw
        cases hc
        obtain ⟨rfl, hr⟩ := hpv
        obtain ⟨rfl, _⟩ := hu
        obtain ⟨rfl, _⟩ := hv
        obtain ⟨hi1, hi2⟩ := elemAt_rep h hi
        obtain ⟨hj1, hj2⟩ := elemAt_rep h hj
        have h' := h.nums (st.nx + 1) (.fmul (.v i) (.v j) :: st.exs)
        obtain ⟨_, hroom⟩ := room_of h' hw rfl
        obtain ⟨_, hnx, hex, _⟩ := write_nr hw
        rw [hnx, hex] at hH
        refine fun o' a' next Q hn => hp w _ _ _ _ _ _ _ _ (h.block_lt hr) (fun k hk => hroom k hk) hi1 hj1 hi2 hj2 o' a' next Q fun v w' ⟨hv', hb⟩ => hn _ _ ?_
        exact after_elem h hw hH.1 (Nat.mod_lt _ pq_pos) hv' hb
      · cases hc
    · cases hc
  · -- fadd
    rename_i q r o r1 o1 r2 o2
    match vals, hl, hvals with
    | [pv, u, v], _, hvals =>
    have hpv := hvals 0 _ pv rfl rfl
    have hu := hvals 1 _ u rfl rfl
    have hv := hvals 2 _ v rfl rfl
    clear hvals
    split at hc
    · rename_i i j hi hj
      split at hc
      · rename_i st1 hw
        cases hc
        obtain ⟨rfl, hr⟩ := hpv
        obtain ⟨rfl, _⟩ := hu
        obtain ⟨rfl, _⟩ := hv
        obtain ⟨hi1, hi2⟩ := elemAt_rep h hi
        obtain ⟨hj1, hj2⟩ := elemAt_rep h hj
        have h' := h.nums (st.nx + 1) (.fadd (.v i) (.v j) :: st.exs)
        obtain ⟨_, hroom⟩ := room_of h' hw rfl
        obtain ⟨_, hnx, hex, _⟩ := write_nr hw
        rw [hnx, hex] at hH
        refine fun o' a' next Q hn => hp w _ _ _ _ _ _ _ _ (h.block_lt hr) (fun k hk => hroom k hk) hi1 hj1 hi2 hj2 o' a' next Q fun v w' ⟨hv', hb⟩ => hn _ _ ?_
        exact after_elem h hw hH.1 (Nat.mod_lt _ pq_pos) hv' hb
      · cases hc
    · cases hc
  · -- fsub
    rename_i q r o r1 o1 r2 o2
    match vals, hl, hvals with
    | [pv, u, v], _, hvals =>
    have hpv := hvals 0 _ pv rfl rfl
    have hu := hvals 1 _ u rfl rfl
    have hv := hvals 2 _ v rfl rfl
    clear hvals
    split at hc
    · rename_i i j hi hj
      split at hc
      · rename_i st1 hw
        cases hc
        obtain ⟨rfl, hr⟩ := hpv
        obtain ⟨rfl, _⟩ := hu
        obtain ⟨rfl, _⟩ := hv
        obtain ⟨hi1, hi2⟩ := elemAt_rep h hi
        obtain ⟨hj1, hj2⟩ := elemAt_rep h hj
        have h' := h.nums (st.nx + 1) (.fsub (.v i) (.v j) :: st.exs)
        obtain ⟨_, hroom⟩ := room_of h' hw rfl
        obtain ⟨_, hnx, hex, _⟩ := write_nr hw
        rw [hnx, hex] at hH
        refine fun o' a' next Q hn => hp w _ _ _ _ _ _ _ _ (h.block_lt hr) (fun k hk => hroom k hk) hi1 hj1 hi2 hj2 o' a' next Q fun v w' ⟨hv', hb⟩ => hn _ _ ?_
        exact after_elem h hw hH.1 (Nat.mod_lt _ pq_pos) hv' hb
      · cases hc
    · cases hc
  · -- fsq
    rename_i q r o r1 o1
    match vals, hl, hvals with
    | [pv, u], _, hvals =>
    have hpv := hvals 0 _ pv rfl rfl
    have hu := hvals 1 _ u rfl rfl
    clear hvals
    split at hc
    · rename_i i hi
      split at hc
      · rename_i st1 hw
        cases hc
        obtain ⟨rfl, hr⟩ := hpv
        obtain ⟨rfl, _⟩ := hu
        obtain ⟨hi1, hi2⟩ := elemAt_rep h hi
        have h' := h.nums (st.nx + 1) (.fmul (.v i) (.v i) :: st.exs)
        obtain ⟨_, hroom⟩ := room_of h' hw rfl
        obtain ⟨_, hnx, hex, _⟩ := write_nr hw
        rw [hnx, hex] at hH
        refine fun o' a' next Q hn => hp w _ _ _ _ _ (h.block_lt hr) (fun k hk => hroom k hk) hi1 hi2 o' a' next Q fun v w' ⟨hv', hb⟩ => hn _ _ ?_
        exact after_elem h hw hH.1 (Nat.mod_lt _ pq_pos) hv' hb
      · cases hc
    · cases hc
  · -- fset
    rename_i r o r1 o1
    match vals, hl, hvals with
    | [pv, u], _, hvals =>
    have hpv := hvals 0 _ pv rfl rfl
    have hu := hvals 1 _ u rfl rfl
    clear hvals
    split at hc
    · rename_i i hi
      split at hc
      · rename_i st1 hw
        cases hc
        obtain ⟨rfl, hr⟩ := hpv
        obtain ⟨rfl, _⟩ := hu
        obtain ⟨hi1, hi2⟩ := elemAt_rep h hi
        obtain ⟨_, hroom⟩ := room_of h hw rfl
        obtain ⟨hnr, hnx, hex, _⟩ := write_nr hw
        refine fun o' a' next Q hn => hp w _ _ _ _ _ (h.block_lt hr) (fun k hk => hroom k hk) hi1 hi2 o' a' next Q fun v w' ⟨hv', hb⟩ => hn _ _ ?_
        have hv' := hv' rfl
        subst hv'
        exact ⟨β, Agree.refl _ _, ⟨rfl, by rw [hnr]; exact hr⟩, h.wrote hw (by rw [limbs_conc]; exact hb) (limbs_rep hi2)⟩
      · cases hc
    · cases hc
  · -- fone
    rename_i q r o
    match vals, hl, hvals with
    | [pv], _, hvals =>
    have hpv := hvals 0 _ pv rfl rfl
    clear hvals
    split at hc
    · rename_i st1 hw
      cases hc
      obtain ⟨rfl, hr⟩ := hpv
      have h' := h.nums (st.nx + 1) (.fcst 1 :: st.exs)
      obtain ⟨_, hroom⟩ := room_of h' hw rfl
      obtain ⟨_, hnx, hex, _⟩ := write_nr hw
      rw [hnx, hex] at hH
      refine fun o' a' next Q hn => hp w _ _ (h.block_lt hr) (fun k hk => hroom k hk) o' a' next Q fun v w' ⟨hv', hb⟩ => hn _ _ ?_
      exact after_elem h hw hH.1 (Nat.mod_lt _ pq_pos) hv' hb
    · cases hc
  · -- fsel
    rename_i r o r1 o1 r2 o2 c
    match vals, hl, hvals with
    | [pv, u, v, t], _, hvals =>
    have hpv := hvals 0 _ pv rfl rfl
    have hu := hvals 1 _ u rfl rfl
    have hv := hvals 2 _ v rfl rfl
    have ht := hvals 3 _ t rfl rfl
    clear hvals
    split at hc
    · rename_i i j wc hi hj hcc
      split at hc
      · rename_i st1 hw
        cases hc
        obtain ⟨rfl, hr⟩ := hpv
        obtain ⟨rfl, _⟩ := hu
        obtain ⟨rfl, _⟩ := hv
        obtain ⟨rfl, hc1⟩ := carryK_rep hcc ht
        obtain ⟨hi1, hi2⟩ := elemAt_rep h hi
        obtain ⟨hj1, hj2⟩ := elemAt_rep h hj
        have h' := h.nums (st.nx + 1) (.sel wc (.v j) (.v i) :: st.exs)
        obtain ⟨_, hroom⟩ := room_of h' hw rfl
        obtain ⟨_, hnx, hex, _⟩ := write_nr hw
        rw [hnx, hex] at hH
        refine fun o' a' next Q hn => hp w _ _ _ _ _ _ _ _ _ (h.block_lt hr) (fun k hk => hroom k hk) hi1 hj1 hi2 hj2 hc1 o' a' next Q fun v w' ⟨hv', hb⟩ => hn _ _ ?_
        refine after_elem (q := false) h hw hH.1 ?_ (fun _ => hv') hb
        show (if wc.val s = 0 then s j else s i) < pq
        split
        · exact hj2
        · exact hi2
      · cases hc
    · cases hc
  · -- fselv
    rename_i r o c r1 o1 r2 o2
    match vals, hl, hvals with
    | [pv, t, u, v], _, hvals =>
    have hpv := hvals 0 _ pv rfl rfl
    have ht := hvals 1 _ t rfl rfl
    have hu := hvals 2 _ u rfl rfl
    have hv := hvals 3 _ v rfl rfl
    clear hvals
    split at hc
    · rename_i i j wc hi hj hcc
      split at hc
      · rename_i st1 hw
        cases hc
        obtain ⟨rfl, hr⟩ := hpv
        obtain ⟨rfl, _⟩ := hu
        obtain ⟨rfl, _⟩ := hv
        obtain ⟨rfl, hc1⟩ := carryK_rep hcc ht
        obtain ⟨hi1, hi2⟩ := elemAt_rep h hi
        obtain ⟨hj1, hj2⟩ := elemAt_rep h hj
        have h' := h.nums (st.nx + 1) (.sel wc (.v i) (.v j) :: st.exs)
        obtain ⟨_, hroom⟩ := room_of h' hw rfl
        obtain ⟨_, hnx, hex, _⟩ := write_nr hw
        rw [hnx, hex] at hH
        refine fun o' a' next Q hn => hp w _ _ _ _ _ _ _ _ _ (h.block_lt hr) (fun k hk => hroom k hk) hi1 hj1 hi2 hj2 hc1 o' a' next Q fun v w' hb => hn _ _ ?_
        refine after_elem (q := true) h hw hH.1 ?_ (fun h => by cases h) hb
        show (if wc.val s = 0 then s i else s j) < pq
        split
        · exact hi2
        · exact hj2
      · cases hc
    · cases hc
  · -- finv
    rename_i r o r1 o1
    match vals, hl, hvals with
    | [pv, u], _, hvals =>
    have hpv := hvals 0 _ pv rfl rfl
    have hu := hvals 1 _ u rfl rfl
    clear hvals
    split at hc
    · rename_i z i hz hi
      split at hc
      · rename_i st1 hw
        cases hc
        obtain ⟨rfl, hr⟩ := hpv
        obtain ⟨rfl, _⟩ := hu
        obtain ⟨hi1, hi2⟩ := elemAt_rep h hi
        obtain ⟨hz1, hz2⟩ := elemAt_rep h hz
        have h' := h.nums (st.nx + 1) (.finv (.v i) :: st.exs)
        obtain ⟨_, hroom⟩ := room_of h' hw rfl
        obtain ⟨_, hnx, hex, _⟩ := write_nr hw
        rw [hnx, hex] at hH
        refine fun o' a' next Q hn => hp w _ _ _ _ _ _ (h.block_lt hr) (fun k hk => hroom k hk) hz1 hz2 hi1 hi2 o' a' next Q fun v w' ⟨hv', hb⟩ => hn _ _ ?_
        exact after_elem (q := false) h hw hH.1 (by show finvq (s i) < pq; rw [finvq_def]; exact Nat.mod_lt _ pq_pos) (fun _ => hv') hb
      · cases hc
    · cases hc
  · -- fB
    match vals, hl, hvals with
    | [], _, _ =>
    cases hc
    have e1 : s st.nx = bq % pq := hH.1
    have e2 : bq % pq = bq := by decide +kernel
    refine fun o' a' next Q hn => hp w o' a' next Q fun v w' ⟨b, hb1, hb2, hv, hel, hfz, hbe⟩ => hn _ _ ?_
    subst hv
    have hlt : s st.nx < pq := by rw [e1]; exact Nat.mod_lt _ pq_pos
    obtain ⟨β', hag, hnew, hrel⟩ := h.came (l := limbs st.nx) hb1 hb2 hbe (fun j x hx => by
      have hj := (List.getElem?_eq_some_iff.1 hx).1
      have hj4 : j < 4 := hj
      refine ⟨_, by have := hel j hj4; rwa [Nat.zero_add] at this, fun β' n => ?_⟩
      have : x = .limb st.nx j := by
        have h4 : j = 0 ∨ j = 1 ∨ j = 2 ∨ j = 3 := by omega
        rcases h4 with rfl | rfl | rfl | rfl <;> cases hx <;> rfl
      subst this
      exact ⟨by rw [e1, e2], hlt⟩) (fun j hj => hfz j hj) (st.nx + 1) (.fcst bq :: st.exs)
    refine ⟨β', hag, ⟨?_, Nat.lt_succ_self _⟩, hrel⟩
    rw [at_, hnew]
  · -- feq
    rename_i r1 o1 r2 o2
    match vals, hl, hvals with
    | [u, v], _, hvals =>
    have hu := hvals 0 _ u rfl rfl
    have hv := hvals 1 _ v rfl rfl
    clear hvals
    split at hc
    · rename_i i j hi hj
      cases hc
      obtain ⟨rfl, _⟩ := hu
      obtain ⟨rfl, _⟩ := hv
      obtain ⟨hi1, hi2⟩ := elemAt_rep h hi
      obtain ⟨hj1, hj2⟩ := elemAt_rep h hj
      have e1 : s st.nx = if s i = s j then 1 else 0 := hH.1
      refine fun o' a' next Q hn => hp w _ _ _ _ _ _ hi1 hj1 hi2 hj2 o' a' next Q fun v w' ⟨hv', hb⟩ => hn _ _ ?_
      subst hv'
      refine ⟨β, Agree.refl _ _, ⟨by rw [e1], ?_⟩, (h.nums _ _).kept hb⟩
      rw [e1]
      split <;> omega
    · cases hc
  · -- fzero
    rename_i r1 o1
    match vals, hl, hvals with
    | [u], _, hvals =>
    have hu := hvals 0 _ u rfl rfl
    clear hvals
    split at hc
    · rename_i i hi
      cases hc
      obtain ⟨rfl, _⟩ := hu
      obtain ⟨hi1, hi2⟩ := elemAt_rep h hi
      have e1 : s st.nx = if s i = 0 then 1 else 0 := hH.1
      refine fun o' a' next Q hn => hp w _ _ _ hi1 hi2 o' a' next Q fun v w' ⟨hv', hb⟩ => hn _ _ ?_
      subst hv'
      refine ⟨β, Agree.refl _ _, ⟨by rw [e1], ?_⟩, (h.nums _ _).kept hb⟩
      rw [e1]
      split <;> omega
    · cases hc
  · -- frm
    rename_i r o r1 o1
    match vals, hl, hvals with
    | [pv, u], _, hvals =>
    have hpv := hvals 0 _ pv rfl rfl
    have hu := hvals 1 _ u rfl rfl
    clear hvals
    split at hc
    · rename_i i hi
      split at hc
      · rename_i st1 hw
        cases hc
        obtain ⟨rfl, hr⟩ := hpv
        obtain ⟨rfl, _⟩ := hu
        obtain ⟨hi1, hi2⟩ := elemAt_rep h hi
        obtain ⟨_, hroom⟩ := room_of h hw rfl
        refine fun o' a' next Q hn => hp w _ _ _ _ _ (h.block_lt hr) (fun k hk => hroom k hk) hi1 hi2 o' a' next Q fun v w' hb => hn _ _ ?_
        exact after_write h hw (digs_rep hi2) hb
      · cases hc
    · cases hc
  · -- tob
    rename_i r o r1 o1
    match vals, hl, hvals with
    | [pv, u], _, hvals =>
    have hpv := hvals 0 _ pv rfl rfl
    have hu := hvals 1 _ u rfl rfl
    clear hvals
    split at hc
    · rename_i i hi
      split at hc
      · rename_i st1 hw
        cases hc
        obtain ⟨rfl, hr⟩ := hpv
        obtain ⟨rfl, _⟩ := hu
        obtain ⟨hi1, hi2⟩ := digAt_rep h hi
        obtain ⟨_, hroom⟩ := room_of h hw rfl
        refine fun o' a' next Q hn => hp w _ _ _ _ _ (h.block_lt hr) (fun k hk => hroom k hk) hi1 o' a' next Q fun v w' hb => hn _ _ ?_
        exact after_write h hw (byts_rep hi2) (by rw [byts_conc]; exact hb)
      · cases hc
    · cases hc
  · -- rev
    rename_i r o
    match vals, hl, hvals with
    | [u], _, hvals =>
    have hu := hvals 0 _ u rfl rfl
    clear hvals
    split at hc
    · rename_i i hi
      split at hc
      · rename_i st1 hw
        cases hc
        obtain ⟨rfl, _⟩ := hu
        obtain ⟨hi1, hi2⟩ := bytAt_rep h hi
        obtain ⟨_, hroom⟩ := room_of (n := 28) h hw (by simp [byts])
        refine fun o' a' next Q hn => hp w _ _ _ hi1 (fun k hk => (hroom k hk).2) o' a' next Q fun v w' hb => hn _ _ ?_
        exact after_write h hw (byts_rep hi2) (by rw [byts_conc]; exact hb)
      · cases hc
    · split at hc
      · rename_i i hi
        split at hc
        · rename_i st1 hw
          cases hc
          obtain ⟨rfl, _⟩ := hu
          obtain ⟨hi1, hi2⟩ := bytAt_rep h hi
          obtain ⟨_, hroom⟩ := room_of (n := 28) h hw (by simp [byts])
          refine fun o' a' next Q hn => hp w _ _ _ hi1 (fun k hk => (hroom k hk).2) o' a' next Q fun v w' hb => hn _ _ ?_
          refine after_write h hw (byts_rep hi2) ?_
          rw [byts_conc]
          have e : (bytesRow fun k => by8 (down (27 - k)) (s i)) = bytesRow fun k => by8 (id k) (s i) := by
            unfold bytesRow
            refine List.map_congr_left fun k hk => ?_
            have : k < 28 := by simpa using hk
            show Value.int .u8 (by8 (down (27 - k)) (s i) : Int) = Value.int .u8 (by8 k (s i) : Int)
            rw [show down (27 - k) = k by unfold down; omega]
          rw [← e]
          exact hb
        · cases hc
      · cases hc
  · -- frb
    rename_i r o r1 o1
    match vals, hl, hvals with
    | [pv, u], _, hvals =>
    have hpv := hvals 0 _ pv rfl rfl
    have hu := hvals 1 _ u rfl rfl
    clear hvals
    split at hc
    · rename_i i hi
      split at hc
      · rename_i st1 hw
        cases hc
        obtain ⟨rfl, hr⟩ := hpv
        obtain ⟨rfl, _⟩ := hu
        obtain ⟨hi1, hi2⟩ := bytAt_rep h hi
        obtain ⟨_, hroom⟩ := room_of h hw rfl
        refine fun o' a' next Q hn => hp w _ _ _ _ _ (h.block_lt hr) (fun k hk => hroom k hk) hi1 (Nat.lt_trans hi2 pq_lt224) o' a' next Q fun v w' hb => hn _ _ ?_
        exact after_write h hw (digs_rep hi2) hb
      · cases hc
    · cases hc
  · -- tom
    rename_i r o r1 o1
    match vals, hl, hvals with
    | [pv, u], _, hvals =>
    have hpv := hvals 0 _ pv rfl rfl
    have hu := hvals 1 _ u rfl rfl
    clear hvals
    split at hc
    · rename_i i hi
      split at hc
      · rename_i st1 hw
        cases hc
        obtain ⟨rfl, hr⟩ := hpv
        obtain ⟨rfl, _⟩ := hu
        obtain ⟨hi1, hi2⟩ := digAt_rep h hi
        obtain ⟨_, hroom⟩ := room_of h hw rfl
        refine fun o' a' next Q hn => hp w _ _ _ _ _ (h.block_lt hr) (fun k hk => hroom k hk) hi1 hi2 o' a' next Q fun v w' hb => hn _ _ ?_
        exact after_write h hw (limbs_rep hi2) (by rw [limbs_conc]; exact hb)
      · cases hc
    · cases hc
  · -- bts
    rename_i r1 o1 r o
    match vals, hl, hvals with
    | [u, pv], _, hvals =>
    have hpv := hvals 1 _ pv rfl rfl
    have hu := hvals 0 _ u rfl rfl
    clear hvals
    split at hc
    · rename_i i hi
      split at hc
      · rename_i st1 hw
        cases hc
        obtain ⟨rfl, hr⟩ := hpv
        obtain ⟨rfl, _⟩ := hu
        obtain ⟨hi1, hi2⟩ := elemAt_rep h hi
        obtain ⟨_, hroom⟩ := room_of (n := 28) h hw (by simp [byts])
        refine fun o' a' next Q hn => hp w _ _ _ _ _ (h.block_lt hr) (fun k hk => hroom k hk) hi1 hi2 o' a' next Q fun v w' ⟨hv, hb⟩ => hn _ _ ?_
        subst hv
        exact ⟨β, Agree.refl _ _, ⟨rfl, by rw [(write_nr hw).1]; exact hr⟩, h.wrote hw (by rw [byts_conc]; exact hb) (byts_rep hi2)⟩
      · cases hc
    · cases hc
  · -- byN
    rename_i r1 o1
    match vals, hl, hvals with
    | [u], _, hvals =>
    have hu := hvals 0 _ u rfl rfl
    clear hvals
    split at hc
    · rename_i i hi
      cases hc
      obtain ⟨rfl, _⟩ := hu
      obtain ⟨hi1, hi2⟩ := elemAt_rep h hi
      refine fun o' a' next Q hn => hp w _ _ _ hi1 hi2 o' a' next Q fun v w' ⟨b, hb1, hb2, hv, hel, hfz, hbe⟩ => hn _ _ ?_
      subst hv
      obtain ⟨β', hag, hnew, hrel⟩ := h.came (l := byts down i) hb1 hb2 hbe (fun j x hx => by
        have hj : j < 28 := by have := (List.getElem?_eq_some_iff.1 hx).1; simpa [byts] using this
        have hx' : x = .byt i (down j) := by
          rw [byts, List.getElem?_map, List.getElem?_range hj] at hx
          exact (Option.some.inj hx).symm
        subst hx'
        have := (hel j hj).1
        rw [Nat.zero_add] at this
        exact ⟨_, this, fun β' n => ⟨rfl, hi2⟩⟩) (fun j hj => hfz j (by simpa [byts] using hj)) st.nx st.exs
      refine ⟨β', hag, ⟨?_, Nat.lt_succ_self _⟩, hrel⟩
      rw [at_, hnew]
    · cases hc
  · -- cmpB
    rename_i r1 o1 r2 o2
    match vals, hl, hvals with
    | [u, v], _, hvals =>
    have hu := hvals 0 _ u rfl rfl
    have hv := hvals 1 _ v rfl rfl
    clear hvals
    split at hc
    · rename_i x y hi hj
      cases hc
      obtain ⟨rfl, _⟩ := hu
      obtain ⟨rfl, _⟩ := hv
      obtain ⟨hi1, hi2⟩ := numAt_rep h hi
      obtain ⟨hj1, hj2⟩ := numAt_rep h hj
      have e1 : s st.nx = if x.val s = y.val s then 1 else 0 := hH.1
      refine fun o' a' next Q hn => hp w _ _ _ _ _ _ hi1 hj1 o' a' next Q fun v w' ⟨hv', hb⟩ => hn _ _ ?_
      subst hv'
      refine ⟨β, Agree.refl _ _, ⟨?_, ?_⟩, (h.nums _ _).kept hb⟩
      · rw [e1]
        by_cases he : x.val s = y.val s
        · rw [if_pos he, if_pos ((bytes_inj hi2 hj2).2 he)]
        · rw [if_neg he, if_neg (fun hh => he ((bytes_inj hi2 hj2).1 hh))]
      rw [e1]
      split <;> omega
    · cases hc
  · cases hc

end
end P224
/- The executor is right: one operation, a row, a region whose order is drawn, a whole body. -/
namespace P224
open Go Go.RowKit
section
variable {P : Program} {T : Tab} {F : Fix} {s : Nums} {β : Places} {w0 : World} {st : St} {a : Act} {w : World}

theorem St.le.refl (st : St) : St.le st st := ⟨[], rfl, rfl⟩
theorem St.le.trans {st st' st'' : St} (h : St.le st st') (h' : St.le st' st'') : St.le st st'' := by
  obtain ⟨l, h1, h2⟩ := h
  obtain ⟨m, h3, h4⟩ := h'
  exact ⟨m ++ l, by rw [h3, h1, List.append_assoc], by rw [h4, h2, List.length_append]; omega⟩
theorem St.le.holds {st st' : St} (h : St.le st st') (hH : Holds s st'.nx st'.exs) : Holds s st.nx st.exs := by
  obtain ⟨l, h1, h2⟩ := h
  rw [h1, h2] at hH
  exact Holds.drop l _ _ hH

theorem Grows.refl (st : St) : Grows st st := ⟨.refl st, Nat.le_refl _⟩
theorem Grows.trans {st st' st'' : St} (h : Grows st st') (h' : Grows st' st'') : Grows st st'' := ⟨h.le.trans h'.le, Nat.le_trans h.nr h'.nr⟩

theorem write_grows {st st1 st' : St} {r o : Nat} {vs : List A0} (hw : write F st1 r o vs = some st') (h : Grows st st1) : Grows st st' := by
  obtain ⟨h1, h2, h3, _⟩ := write_nr hw
  refine h.trans ⟨⟨[], by rw [h3]; rfl, by rw [h2]; rfl⟩, by rw [h1]; exact Nat.le_refl _⟩

theorem call_grows {st st' : St} {p : Prim} {args : List AV} {av : AV} (hc : callPrim F st p args = some (av, st')) : Grows st st' := by
  unfold callPrim at hc
  split at hc <;> (try split at hc) <;> (try split at hc) <;> (try split at hc) <;> first
    | (cases hc; done)
    | (cases hc; exact ⟨⟨[_, _], rfl, rfl⟩, Nat.le_refl _⟩)
    | (cases hc; exact ⟨⟨[_], rfl, rfl⟩, Nat.le_refl _⟩)
    | (cases hc; exact ⟨⟨[_], rfl, rfl⟩, Nat.le_succ _⟩)
    | (cases hc; exact ⟨⟨[], rfl, rfl⟩, Nat.le_succ _⟩)
    | (rename_i hw; cases hc; exact write_grows hw ⟨⟨[_], rfl, rfl⟩, Nat.le_refl _⟩)
    | (rename_i hw; cases hc; exact write_grows hw (.refl _))

theorem loud0_grows {st st' : St} {op : Op} {av : AV} (hc : loud0 T F st op = some (av, st')) : Grows st st' := by
  unfold loud0 at hc
  split at hc
  · rename_i t
    unfold allocAt at hc
    split at hc
    · rename_i l hl
      cases hb : T.elem t with
      | true => rw [hb, cond_true] at hc; cases hc; exact ⟨⟨[_], rfl, rfl⟩, Nat.le_succ _⟩
      | false => rw [hb, cond_false] at hc; cases hc; exact ⟨⟨[], rfl, rfl⟩, Nat.le_succ _⟩
    · cases hc
  · split at hc
    · obtain ⟨_, h2⟩ := bif_some hc
      cases h2
      exact ⟨⟨[], rfl, rfl⟩, Nat.le_succ _⟩
    · cases hc
  · split at hc
    · obtain ⟨_, h2⟩ := bif_some hc
      cases h2
      exact ⟨⟨[], rfl, rfl⟩, Nat.le_succ _⟩
    · obtain ⟨_, h2⟩ := bif_some hc
      cases h2
      exact ⟨⟨[], rfl, rfl⟩, Nat.le_succ _⟩
    · cases hc
  · split at hc
    · split at hc
      · rename_i hw; cases hc; exact write_grows hw (.refl _)
      · cases hc
    · obtain ⟨_, h2⟩ := bif_some hc
      split at h2
      · rename_i hw; cases h2; exact write_grows hw (.refl _)
      · cases h2
    · cases hc
  · split at hc
    · split at hc
      · exact call_grows hc
      · cases hc
    · cases hc
  · cases hc

theorem loud_grows (hT : T.Ok P) {st st' : St} {op : Op} {av : AV} (hc : loud T F st op = some (av, st')) : Grows st st' := by
  unfold loud at hc
  split at hc
  · rename_i r hr
    cases hc
    exact hT.lext.1 hr
  · exact loud0_grows hc

theorem upon_value_ok {o : Oper} {next : Act → World → Prop} {Q : Exit → Act → World → Prop} {v : Value} {w1 : World} (h : (execOp a.eval o).run P w = .ok (.value v) w1) (hn : next (a.put o.dst v) w1) :
    o.wp P a w next Q := by
  unfold Oper.wp
  rw [h]
  exact hn

theorem lit_cells {cells : List Value} (j : Nat) (x : A0) (v : Value) (hx : (litCells cells)[j]? = some x) (hv : cells[j]? = some v) (β' : Places) (n : Nat) : x.rep s β' n v := by
  rw [litCells, List.getElem?_map, hv] at hx
  cases hx
  exact rfl

theorem write_def {st st' : St} {r o : Nat} {vs : List A0} (h : write F st r o vs = some st') : ∀ x ∈ vs, definite x = true := by
  unfold write at h
  split at h
  · obtain ⟨hd, _⟩ := bif_some h
    simp only [Bool.and_eq_true, List.all_eq_true] at hd
    exact hd.2
  · cases h

theorem store_run (h : Rel F s β w0 st a w) {r o : Nat} {vs : List A0} {st' : St} (hw : write F st r o vs = some st') :
    (storeCells (at_ β r o) (vs.map (A0.conc s β)) 0).run P w = .ok () (w.setCells (β r).1 ((β r).2 + o) (vs.map (A0.conc s β))) := by
  obtain ⟨_, hroom⟩ := room_of h hw rfl
  have := run_storeCells_cells (P := P) (β r).1 ((β r).2 + o) (vs.map (A0.conc s β)) 0 w
    (fun j hj => by
      rw [List.length_map] at hj
      obtain ⟨⟨v, hv⟩, _⟩ := hroom j hj
      rw [Nat.add_zero, hv]; rfl)
    (fun j hj => by
      rw [List.length_map] at hj
      rw [Nat.add_zero]
      exact (hroom j hj).2)
    (fun v hv => by
      obtain ⟨x, hx, rfl⟩ := List.mem_map.1 hv
      exact oneCell_conc (write_def hw x hx))
  rw [Nat.add_zero] at this
  exact this

/-- An operation that may change memory. -/
theorem loud0_rep (hT : T.Ok P) (h : Rel F s β w0 st a w) {o : Oper} {av : AV} {st' : St} (hc : loud0 T F st o.op = some (av, st')) (hH : Holds s st'.nx st'.exs)
    {next : Act → World → Prop} {Q : Exit → Act → World → Prop} (hn : ∀ v w', After F s β w0 a st st' av v w' → next (a.put o.dst v) w') : o.wp P a w next Q := by
  unfold loud0 at hc
  split at hc
  · rename_i t ho
    unfold allocAt at hc
    split at hc
    · rename_i l hl
      obtain ⟨i, z, hi, hz, hcells⟩ := hT.zero _ _ hl
      have hrun : (execOp a.eval o).run P w = .ok (.value (.pointer (some ⟨w.heap.size, 0, none⟩))) (w.alloc (.cells l.toArray t (0, 0))) := by
        simp only [execOp, ho, Instr.alloc, zeroValue, typeInfo, Sem.run_bind, run_program, Result.andThen, hi, Sem.run_pure, hz, newVar, newRow, hcells, run_newObj]
        rfl
      refine upon_value_ok hrun (hn _ _ ?_)
      cases hb : T.elem t with
      | true =>
        rw [hb, cond_true] at hc
        cases hc
        have he := hT.elem t hb
        rw [hl] at he
        cases he
        have h0 : s st.nx = 0 := by have := hH.1; simpa [Ex.val] using this
        have hl0 : ∀ k, lim k 0 = 0 := fun k => by simp [lim]
        obtain ⟨β', hag, hnew, hrel⟩ := h.made t (cells := [.int .u64 0, .int .u64 0, .int .u64 0, .int .u64 0]) (l := limbs st.nx) rfl (fun j x v hx hv β' _ => by
          have hj : j < 4 := (List.getElem?_eq_some_iff.1 hx).1
          have : j = 0 ∨ j = 1 ∨ j = 2 ∨ j = 3 := by omega
          rcases this with rfl | rfl | rfl | rfl <;> cases hx <;> cases hv <;> exact ⟨by rw [h0, hl0]; rfl, by rw [h0]; exact pq_pos⟩) (st.nx + 1) (.fcst 0 :: st.exs)
        refine ⟨β', hag, ⟨?_, Nat.lt_succ_self _⟩, hrel⟩
        rw [at_, hnew]
      | false =>
        rw [hb, cond_false] at hc
        cases hc
        obtain ⟨β', hag, hnew, hrel⟩ := h.made t (cells := l) (l := litCells l) (by simp [litCells]) (fun j x v hx hv β' _ => lit_cells j x v hx hv β' _) st.nx st.exs
        refine ⟨β', hag, ⟨?_, Nat.lt_succ_self _⟩, hrel⟩
        rw [at_, hnew]
    · cases hc
  · rename_i t lo ca ho
    split at hc
    · rename_i n m z hlo hca hz
      obtain ⟨hd, h2⟩ := bif_some hc
      cases h2
      simp only [Bool.and_eq_true, decide_eq_true_eq] at hd
      obtain ⟨⟨rfl, h0⟩, hlt⟩ := hd
      have hl1 := ev_rep h.tm lo
      rw [hlo] at hl1
      have hl2 := ev_rep h.tm ca
      rw [hca] at hl2
      have e1 : a.eval lo = .int .i64 n := hl1
      have e2 : a.eval ca = .int .i64 n := hl2
      obtain ⟨k, rfl⟩ := Int.eq_ofNat_of_zero_le h0
      obtain ⟨e, hrun0⟩ := hT.mks _ _ hz k w (by omega)
      have hrun : (execOp a.eval o).run P w = .ok (.value (.slice (some ⟨w.heap.size, 0, none⟩) k k)) (w.alloc (.cells (List.replicate k z).toArray e (0, 0))) := by
        simp only [execOp, ho, e1, e2, Sem.run_bind, hrun0, Result.andThen, Sem.run_pure]
      refine upon_value_ok hrun (hn _ _ ?_)
      obtain ⟨β', hag, hnew, hrel⟩ := h.made e (cells := List.replicate k z) (l := litCells (List.replicate k z)) (by simp [litCells]) (fun j x v hx hv β' _ => lit_cells j x v hx hv β' _) st.nx st.exs
      refine ⟨β', hag, ⟨?_, Nat.lt_succ_self _⟩, hrel⟩
      rw [at_, hnew]
      rfl
    · cases hc
  · rename_i t x ho
    split at hc
    · rename_i y hy
      obtain ⟨hd, h2⟩ := bif_some hc
      cases h2
      have hx := ev_rep h.tm x
      rw [hy] at hx
      have hv := rep_conc hd hx
      have h1 := oneCell_conc (s := s) (β := β) hd
      rw [← hv] at h1
      have hcells : (a.eval x).cells = #[a.eval x] := by
        revert h1
        generalize a.eval x = v
        intro h1
        cases v <;> first | rfl | (cases h1; done)
      have hrun : (execOp a.eval o).run P w = .ok (.value (.pointer (some ⟨w.heap.size, 0, none⟩))) (w.alloc (.cells #[a.eval x] t (0, 0))) := by
        simp only [execOp, ho, Instr.box, Sem.run_bind, Result.andThen, Sem.run_pure, newVar, newRow, hcells, run_newObj]
        rfl
      refine upon_value_ok hrun (hn _ _ ?_)
      obtain ⟨β', hag, hnew, hrel⟩ := h.made t (cells := [a.eval x]) (l := [y]) rfl (fun j u v hu hv β' hag => by
        match j, hu, hv with
        | 0, hu, hv => cases hu; cases hv; exact A0.rep_mono hag (Nat.le_succ _) hx) st.nx st.exs
      refine ⟨β', hag, ⟨?_, Nat.lt_succ_self _⟩, hrel⟩
      rw [at_, hnew]
    · rename_i l hy
      obtain ⟨hd, h2⟩ := bif_some hc
      cases h2
      have hx := ev_rep h.tm x
      rw [hy] at hx
      obtain ⟨vs, hv, hlen, hreps⟩ := hx
      have hrun : (execOp a.eval o).run P w = .ok (.value (.pointer (some ⟨w.heap.size, 0, none⟩))) (w.alloc (.cells vs.toArray t (0, 0))) := by
        simp only [execOp, ho, hv, Instr.box, Sem.run_bind, Result.andThen, Sem.run_pure, newVar, newRow, Value.cells, run_newObj]
        rfl
      refine upon_value_ok hrun (hn _ _ ?_)
      obtain ⟨β', hag, hnew, hrel⟩ := h.made t (cells := vs) (l := l) hlen.symm (fun j u v hu hv β' hag => A0.rep_mono hag (Nat.le_succ _) (hreps j u v hu hv)) st.nx st.exs
      refine ⟨β', hag, ⟨?_, Nat.lt_succ_self _⟩, hrel⟩
      rw [at_, hnew]
    · cases hc
  · rename_i t ad x ho
    split at hc
    · rename_i r d v g hr hx hvar
      split at hc
      · rename_i st1 hw
        cases hc
        have hp := ev_rep h.tm ad
        rw [hr] at hp
        have hvx := ev_rep h.tm x
        rw [hx] at hvx
        have hdef := write_def hw v (by simp)
        have hval : a.eval x = v.conc s β := rep_conc hdef hvx
        obtain ⟨_, i, hi, hsz⟩ := hT.var _ _ _ hvar
        have hst := store_run (P := P) h hw
        have hone := oneCell_conc (s := s) (β := β) hdef
        have hcells : (v.conc s β).cells = #[v.conc s β] := by
          generalize v.conc s β = u at hone
          cases u <;> first | rfl | (cases hone; done)
        have hrun : (execOp a.eval o).run P w = .ok .skip (w.setCells (β r).1 ((β r).2 + d) [v.conc s β]) := by
          simp only [execOp, ho, hp.1, hval, Instr.storeAt, Instr.sureAddr, Sem.run_bind, Sem.run_pure, Result.andThen, storeVar, run_size hi, hsz, hcells]
          simp only [List.map_cons, List.map_nil] at hst
          simp [hst]
        unfold Oper.wp
        rw [hrun]
        refine hn _ _ ⟨β, Agree.refl _ _, trivial, h.wrote hw (Below.refl _ _) (fun y hy => ?_)⟩
        simp only [List.mem_cons, List.not_mem_nil, or_false] at hy
        subst hy
        rw [← hval]; exact hvx
      · cases hc
    · rename_i r d l g n hr hx hvar
      obtain ⟨hd, h2⟩ := bif_some hc
      simp only [Bool.and_eq_true, decide_eq_true_eq] at hd
      split at h2
      · rename_i st1 hw
        cases h2
        have hp := ev_rep h.tm ad
        rw [hr] at hp
        have hvx := ev_rep h.tm x
        rw [hx] at hvx
        obtain ⟨vs, hval, hlen, hrep⟩ := hvx
        have hdef := write_def hw
        have hvs : vs = l.map (A0.conc s β) := by
          refine List.ext_getElem? fun j => ?_
          rw [List.getElem?_map]
          cases hj : l[j]? with
          | none =>
            have := List.getElem?_eq_none_iff.1 hj
            exact List.getElem?_eq_none_iff.2 (by omega)
          | some y =>
            have hjl := (List.getElem?_eq_some_iff.1 hj).1
            obtain ⟨u, hu⟩ : ∃ u, vs[j]? = some u := ⟨vs[j]'(by omega), List.getElem?_eq_getElem _⟩
            rw [hu, Option.map_some, rep_conc (hdef y (List.mem_of_getElem? hj)) (hrep j y u hj hu)]
        obtain ⟨_, i, hi, hsz⟩ := hT.var _ _ _ hvar
        have hst := store_run (P := P) h hw
        have hrun : (execOp a.eval o).run P w = .ok .skip (w.setCells (β r).1 ((β r).2 + d) (l.map (A0.conc s β))) := by
          simp only [execOp, ho, hp.1, hval, hvs, Instr.storeAt, Instr.sureAddr, Sem.run_bind, Sem.run_pure, Result.andThen, storeVar, run_size hi, hsz, Value.cells]
          simp [hst, hd.1]
        unfold Oper.wp
        rw [hrun]
        refine hn _ _ ⟨β, Agree.refl _ _, trivial, h.wrote hw (Below.refl _ _) (fun y hy => ?_)⟩
        obtain ⟨j, hj⟩ := List.getElem?_of_mem hy
        have hjl := (List.getElem?_eq_some_iff.1 hj).1
        obtain ⟨u, hu⟩ : ∃ u, vs[j]? = some u := ⟨vs[j]'(by omega), List.getElem?_eq_getElem _⟩
        have h5 := hrep j y u hj hu
        have h6 := rep_conc (hdef y hy) h5
        rw [← h6]; exact h5
      · cases h2
    · cases hc
  · rename_i c ho
    split at hc
    · rename_i f hcal
      split at hc
      · rename_i p hp
        have hm := call_rep (hT.prim _ _ hp) h hc (vals := c.args.toList.map a.eval) (by simp) (fun j x v hx hv => by
          rw [List.getElem?_map] at hx hv
          cases hj : c.args.toList[j]? with
          | none => rw [hj] at hx; cases hx
          | some y =>
            rw [hj] at hx hv
            cases hx
            cases hv
            exact ev_rep h.tm y) hH
        have hrun : (execOp a.eval o).run P w = (callFunc f (c.args.toList.map a.eval).toArray).run P w := by
          have e1 : c.args.map a.eval = (c.args.toList.map a.eval).toArray := by
            rw [← Array.toList_map]
          simp only [execOp, ho, resolve, hcal, Act.eval, Deferred.ofValue, Sem.run_bind, Sem.run_pure, Result.andThen, invoke, Array.empty_append, Array.append_empty, e1]
        unfold Oper.wp
        rw [hrun]
        exact hm o a next Q hn
      · cases hc
    · cases hc
  · cases hc

theorem loud_rep (hT : T.Ok P) (h : Rel F s β w0 st a w) {o : Oper} {av : AV} {st' : St} (hc : loud T F st o.op = some (av, st')) (hH : Holds s st'.nx st'.exs)
    {next : Act → World → Prop} {Q : Exit → Act → World → Prop} (hn : ∀ v w', After F s β w0 a st st' av v w' → next (a.put o.dst v) w') : o.wp P a w next Q := by
  unfold loud at hc
  split at hc
  · rename_i r hr
    cases hc
    exact hT.lext.2 h hr hH hn
  · exact loud0_rep hT h hc hH hn

end
end P224
