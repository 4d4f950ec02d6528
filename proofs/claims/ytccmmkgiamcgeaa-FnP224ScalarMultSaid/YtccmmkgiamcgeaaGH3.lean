/- Sum and double of points, as calls that the executor knows. -/
import Derived.Test.YtccmmkgiamcgeaaGH2
set_option linter.all false
namespace P224
open Go Go.RowKit Go.Proofs
set_option maxRecDepth 100000
set_option linter.unusedVariables false

/-- A point: the places of its coordinates, and their numbers. -/
structure PtS where
  rx : Nat
  ox : Nat
  ry : Nat
  oy : Nat
  rz : Nat
  oz : Nat
def ptAt (m : List (Nat × List A0)) (r o : Nat) : Option PtS :=
  match cellsAt m r o 3 with
  | some [.ptr rx ox, .ptr ry oy, .ptr rz oz] => some ⟨rx, ox, ry, oy, rz, oz⟩
  | _ => none
def ptNum (m : List (Nat × List A0)) (p : PtS) : Option (Nat × Nat × Nat) :=
  match elemAt m p.rx p.ox, elemAt m p.ry p.oy, elemAt m p.rz p.oz with
  | some i, some j, some k => some (i, j, k)
  | _, _, _ => none
def apart2 (F : Fix) (nr r q : Nat) : Bool := decide (r ≠ q) && decide (r < nr) && decide (q < nr) && (decide (F.nold ≤ r) || decide (F.nold ≤ q) || F.sep r q)
def ptApart (F : Fix) (nr r : Nat) (p : PtS) : Bool := apart2 F nr r p.rx && apart2 F nr r p.ry && apart2 F nr r p.rz && apart2 F nr p.rx p.ry && apart2 F nr p.rx p.rz && apart2 F nr p.ry p.rz
/-- Three numbers more, written to a point. -/
def ptWrite (F : Fix) (st : St) (r : Nat) (p : PtS) (x y z : Ex) : Option St :=
  bif ptApart F st.nr r p then
    match write F { st with nx := st.nx + 3, exs := z :: y :: x :: st.exs } p.rx p.ox (limbs st.nx), write F { st with nx := st.nx + 3, exs := z :: y :: x :: st.exs } p.ry p.oy (limbs (st.nx + 1)), write F { st with nx := st.nx + 3, exs := z :: y :: x :: st.exs } p.rz p.oz (limbs (st.nx + 2)) with
    | some s1, some _, some _ => match write F s1 p.ry p.oy (limbs (st.nx + 1)) with
      | some s2 => write F s2 p.rz p.oz (limbs (st.nx + 2))
      | none => none
    | _, _, _ => none
  else none

section
variable {s : Nums} {β : Places} {F : Fix} {w0 : World} {st : St} {a : Act} {w : World}
/-- Where a point lies, by the regions. -/
def ptR (β : Places) (r o : Nat) (p : PtS) : PtR := ⟨(β r).1, (β r).2 + o, (β p.rx).1, (β p.rx).2 + p.ox, (β p.ry).1, (β p.ry).2 + p.oy, (β p.rz).1, (β p.rz).2 + p.oz⟩
theorem ptAt_rep (h : Rel F s β w0 st a w) {r o : Nat} {p : PtS} (hp : ptAt st.mem r o = some p) : (ptR β r o p).cells w := by
  unfold ptAt at hp
  split at hp
  · rename_i rx ox ry oy rz oz hc
    cases hp
    obtain ⟨k, hk, hlen, _, hj⟩ := cellsAt_ok (nr := 0) hc
    obtain ⟨_, hcl⟩ := h.mem r k hk
    have get : ∀ j, j < 3 → ∀ q u, [A0.ptr rx ox, .ptr ry oy, .ptr rz oz][j]? = some (.ptr q u) → w.cell? ⟨(β r).1, (β r).2 + o + j, none⟩ = some (ptrTo (β q).1 ((β q).2 + u)) := fun j hj3 q u hx => by
      obtain ⟨v, h1, h2⟩ := hcl (o + j) _ (by rw [← hj j hj3]; exact hx)
      rw [h2.1, at_, ← Nat.add_assoc] at h1
      exact h1
    exact ⟨get 0 (by decide) _ _ rfl, get 1 (by decide) _ _ rfl, get 2 (by decide) _ _ rfl⟩
  · cases hp
theorem ptNum_rep (h : Rel F s β w0 st a w) (r o : Nat) {p : PtS} {i j k : Nat} (hp : ptNum st.mem p = some (i, j, k)) : (ptR β r o p).val w (s i) (s j) (s k) := by
  unfold ptNum at hp
  split at hp
  · rename_i i' j' k' h1 h2 h3
    cases hp
    obtain ⟨a1, b1⟩ := elemAt_rep h h1
    obtain ⟨a2, b2⟩ := elemAt_rep h h2
    obtain ⟨a3, b3⟩ := elemAt_rep h h3
    exact ⟨a1, a2, a3, b1, b2, b3⟩
  · cases hp
theorem apart2_rep (h : Rel F s β w0 st a w) {r q : Nat} (hp : apart2 F st.nr r q = true) : (β r).1 ≠ (β q).1 := by
  simp only [apart2, Bool.and_eq_true, Bool.or_eq_true, decide_eq_true_eq] at hp
  obtain ⟨⟨⟨h1, h2⟩, h3⟩, h4⟩ := hp
  by_cases hr : F.nold ≤ r
  · by_cases hq : F.nold ≤ q
    · exact h.dist r q hr hq h2 h3 h1
    · have a1 := (h.fresh r hr h2).1
      have a2 := h.old q (by omega)
      omega
  · by_cases hq : F.nold ≤ q
    · have a1 := (h.fresh q hq h3).1
      have a2 := h.old r (by omega)
      omega
    · rcases h4 with (h4 | h4) | h4
      · exact absurd h4 hr
      · exact absurd h4 hq
      · exact h.sep r q (by omega) (by omega) h4
theorem ptApart_rep (h : Rel F s β w0 st a w) {r o : Nat} {p : PtS} (hp : ptApart F st.nr r p = true) : (ptR β r o p).apart := by
  simp only [ptApart, Bool.and_eq_true] at hp
  obtain ⟨⟨⟨⟨⟨h1, h2⟩, h3⟩, h4⟩, h5⟩, h6⟩ := hp
  exact ⟨apart2_rep h h1, apart2_rep h h2, apart2_rep h h3, apart2_rep h h4, apart2_rep h h5, apart2_rep h h6⟩

theorem ptWrite_nr {st st' : St} {r : Nat} {p : PtS} {x y z : Ex} (h : ptWrite F st r p x y z = some st') : st'.nr = st.nr ∧ st'.nx = st.nx + 3 ∧ st'.exs = z :: y :: x :: st.exs := by
  unfold ptWrite at h
  obtain ⟨_, h⟩ := bif_some h
  split at h
  · rename_i s1 _ _ h1 _ _
    split at h
    · rename_i s2 h2
      obtain ⟨a1, a2, a3, _⟩ := write_nr h1
      obtain ⟨b1, b2, b3, _⟩ := write_nr h2
      obtain ⟨c1, c2, c3, _⟩ := write_nr h
      exact ⟨by rw [c1, b1, a1], by rw [c2, b2, a2], by rw [c3, b3, a3]⟩
    · cases h
  · cases h

/-- What is written, once the three numbers are known. -/
theorem ptWrite_rel (h : Rel F s β w0 st a w) {st' : St} {r o : Nat} {p : PtS} {x y z : Ex} (hw : ptWrite F st r p x y z = some st') :
    (ptR β r o p).apart ∧ (ptR β r o p).room w ∧ (s st.nx < pq → s (st.nx + 1) < pq → s (st.nx + 2) < pq → ∀ w', Below w.heap.size ((ptR β r o p).set w (s st.nx) (s (st.nx + 1)) (s (st.nx + 2))) w' → Rel F s β w0 st' a w') := by
  unfold ptWrite at hw
  obtain ⟨hap, hw⟩ := bif_some hw
  split at hw
  · rename_i s1 s2' s3' h1 h2' h3'
    split at hw
    · rename_i s2 h2
      have h' := h.nums (st.nx + 3) (z :: y :: x :: st.exs)
      obtain ⟨q1, r1⟩ := room_of h' h1 rfl
      obtain ⟨q2, r2⟩ := room_of h' h2' rfl
      obtain ⟨q3, r3⟩ := room_of h' h3' rfl
      refine ⟨ptApart_rep h hap, ⟨⟨r1, r2, r3⟩, h.block_lt q1, h.block_lt q2, h.block_lt q3⟩, fun l1 l2 l3 w' hb => ?_⟩
      obtain ⟨n1, _⟩ := write_nr h1
      obtain ⟨n2, _⟩ := write_nr h2
      have k1 := h'.wrote h1 (w1 := w.setCells (β p.rx).1 ((β p.rx).2 + p.ox) (words (s st.nx))) (Below.refl _ _) (limbs_rep l1)
      have k2 := k1.wrote h2 (w1 := (w.setCells (β p.rx).1 ((β p.rx).2 + p.ox) (words (s st.nx))).setCells (β p.ry).1 ((β p.ry).2 + p.oy) (words (s (st.nx + 1)))) (Below.refl _ _) (limbs_rep l2)
      refine k2.wrote hw ?_ (limbs_rep l3)
      have e : ((w.setCells (β p.rx).1 ((β p.rx).2 + p.ox) (words (s st.nx))).setCells (β p.ry).1 ((β p.ry).2 + p.oy) (words (s (st.nx + 1)))).heap.size = w.heap.size := by
        rw [setCells_size, setCells_size]
      rw [e]
      exact hb
    · cases hw
  · cases hw
end

def x74 : X := fun F st args => match args with
  | [.one (.ptr r o), .one (.ptr r1 o1), .one (.ptr r2 o2)] => match ptAt st.mem r o, ptAt st.mem r1 o1, ptAt st.mem r2 o2 with
    | some p, some p1, some p2 => match ptNum st.mem p1, ptNum st.mem p2 with
      | some (x1, y1, z1), some (x2, y2, z2) =>
        match ptWrite F st r p (.op 15 [.v x1, .v y1, .v z1, .v x2, .v y2, .v z2]) (.op 16 [.v x1, .v y1, .v z1, .v x2, .v y2, .v z2]) (.op 17 [.v x1, .v y1, .v z1, .v x2, .v y2, .v z2]) with
        | some st' => some (.one (.ptr r o), st')
        | none => none
      | _, _ => none
    | _, _, _ => none
  | _ => none
theorem sxN_lt (x1 y1 z1 x2 y2 z2 : Nat) : sxN pq bq x1 y1 z1 x2 y2 z2 < pq := Nat.mod_lt _ pq_pos
theorem syN_lt (x1 y1 z1 x2 y2 z2 : Nat) : syN pq bq x1 y1 z1 x2 y2 z2 < pq := Nat.mod_lt _ pq_pos
theorem szN_lt (x1 y1 z1 x2 y2 z2 : Nat) : szN pq bq x1 y1 z1 x2 y2 z2 < pq := Nat.mod_lt _ pq_pos

theorem x74_ok : XOk Try.prog 74 x74 := by
  refine ⟨fun {F st st' args av} h => ?_, fun {s β F w0 st st' a w args vs av} hr h hargs hH => ?_⟩
  · unfold x74 at h
    split at h
    · split at h
      · split at h
        · split at h
          · rename_i hw
            cases h
            obtain ⟨a1, a2, a3⟩ := ptWrite_nr hw
            exact ⟨⟨[_, _, _], a3, a2⟩, by rw [a1]; exact Nat.le_refl _⟩
          · cases h
        · cases h
      · cases h
    · cases h
  · unfold x74 at h
    split at h
    · rename_i r o r1 o1 r2 o2
      split at h
      · rename_i p p1 p2 hp hp1 hp2
        split at h
        · rename_i x1 y1 z1 x2 y2 z2 hn1 hn2
          split at h
          · rename_i st1 hw
            cases h
            obtain ⟨u, v, t, rfl, hu, hv, ht⟩ := avs3 hargs
            obtain ⟨rfl, hrn⟩ := hu
            obtain ⟨rfl, _⟩ := hv
            obtain ⟨rfl, _⟩ := ht
            obtain ⟨b1, b2, b3⟩ := ptWrite_nr hw
            rw [b2, b3] at hH
            obtain ⟨e3, e2, e1, _⟩ := hH
            have e1' : s st.nx = sxN pq bq (s x1) (s y1) (s z1) (s x2) (s y2) (s z2) := e1
            have e2' : s (st.nx + 1) = syN pq bq (s x1) (s y1) (s z1) (s x2) (s y2) (s z2) := e2
            have e3' : s (st.nx + 2) = szN pq bq (s x1) (s y1) (s z1) (s x2) (s y2) (s z2) := e3
            obtain ⟨k1, k2, k3⟩ := ptWrite_rel (o := o) hr hw
            have hm := meets74 w (ptR β r o p) (ptR β r1 o1 p1) (ptR β r2 o2 p2) _ _ _ _ _ _ (ptAt_rep hr hp) k2 k1 (ptAt_rep hr hp1) (ptNum_rep hr r1 o1 hn1) (ptAt_rep hr hp2) (ptNum_rep hr r2 o2 hn2)
            intro o' a' next Q hn
            refine hm o' a' next Q fun v' w' ⟨hv', hb⟩ => hn _ _ ?_
            rw [← e1', ← e2', ← e3'] at hb
            refine ⟨β, Agree.refl _ _, ⟨hv', by rw [b1]; exact hrn⟩, k3 ?_ ?_ ?_ w' hb⟩
            · rw [e1']; exact sxN_lt _ _ _ _ _ _
            · rw [e2']; exact syN_lt _ _ _ _ _ _
            · rw [e3']; exact szN_lt _ _ _ _ _ _
          · cases h
        · cases h
      · cases h
    · cases h

def x69 : X := fun F st args => match args with
  | [.one (.ptr r o), .one (.ptr r1 o1)] => match ptAt st.mem r o, ptAt st.mem r1 o1 with
    | some p, some p1 => match ptNum st.mem p1 with
      | some (x1, y1, z1) =>
        match ptWrite F st r p (.op 15 [.v x1, .v y1, .v z1, .v x1, .v y1, .v z1]) (.op 16 [.v x1, .v y1, .v z1, .v x1, .v y1, .v z1]) (.op 18 [.v y1, .v z1]) with
        | some st' => some (.one (.ptr r o), st')
        | none => none
      | _ => none
    | _, _ => none
  | _ => none
theorem x69_ok : XOk Try.prog 69 x69 := by
  refine ⟨fun {F st st' args av} h => ?_, fun {s β F w0 st st' a w args vs av} hr h hargs hH => ?_⟩
  · unfold x69 at h
    split at h
    · split at h
      · split at h
        · split at h
          · rename_i hw
            cases h
            obtain ⟨a1, a2, a3⟩ := ptWrite_nr hw
            exact ⟨⟨[_, _, _], a3, a2⟩, by rw [a1]; exact Nat.le_refl _⟩
          · cases h
        · cases h
      · cases h
    · cases h
  · unfold x69 at h
    split at h
    · rename_i r o r1 o1
      split at h
      · rename_i p p1 hp hp1
        split at h
        · rename_i x1 y1 z1 hn1
          split at h
          · rename_i st1 hw
            cases h
            obtain ⟨u, v, rfl, hu, hv⟩ := avs2 hargs
            obtain ⟨rfl, hrn⟩ := hu
            obtain ⟨rfl, _⟩ := hv
            obtain ⟨b1, b2, b3⟩ := ptWrite_nr hw
            rw [b2, b3] at hH
            obtain ⟨e3, e2, e1, _⟩ := hH
            have e1' : s st.nx = sxN pq bq (s x1) (s y1) (s z1) (s x1) (s y1) (s z1) := e1
            have e2' : s (st.nx + 1) = syN pq bq (s x1) (s y1) (s z1) (s x1) (s y1) (s z1) := e2
            have e3' : s (st.nx + 2) = 8 * (s y1 * s y1 * s y1) * s z1 % pq := e3
            obtain ⟨k1, k2, k3⟩ := ptWrite_rel (o := o) hr hw
            have hm := meets69 w (ptR β r o p) (ptR β r1 o1 p1) _ _ _ (ptAt_rep hr hp) k2 k1 (ptAt_rep hr hp1) (ptNum_rep hr r1 o1 hn1)
            intro o' a' next Q hn
            refine hm o' a' next Q fun v' w' ⟨hv', hb⟩ => hn _ _ ?_
            rw [← e1', ← e2', ← e3'] at hb
            refine ⟨β, Agree.refl _ _, ⟨hv', by rw [b1]; exact hrn⟩, k3 ?_ ?_ ?_ w' hb⟩
            · rw [e1']; exact sxN_lt _ _ _ _ _ _
            · rw [e2']; exact syN_lt _ _ _ _ _ _
            · rw [e3']; exact Nat.mod_lt _ pq_pos
          · cases h
        · cases h
      · cases h
    · cases h
end P224
