/- More operations of the executor: slices that are built, appended to, copied; interfaces of pointers. -/
import Derived.Test.YtccmmkgiamcgeaaGG1
import Derived.Test.YtccmmkgiamcgeaaGF10
set_option linter.all false
namespace P224
open Go Go.RowKit
set_option linter.unusedVariables false

def setVals : List Value → Nat → List Value → List Value
  | l, _, [] => l
  | l, o, v :: vs => setVals (l.set o v) (o + 1) vs
theorem setVals_length : ∀ (vs l : List Value) (o : Nat), (setVals l o vs).length = l.length
  | [], _, _ => rfl
  | v :: vs, l, o => by rw [setVals, setVals_length vs, List.length_set]
theorem foldl_setVals (off : Nat) : ∀ (vs l : List Value) (k : Nat), (vs.zipIdx k).foldl (fun cs (x : Value × Nat) => cs.setIfInBounds (off + x.2) x.1) l.toArray = (setVals l (off + k) vs).toArray
  | [], _, _ => rfl
  | v :: vs, l, k => by
    rw [List.zipIdx_cons, List.foldl_cons, setVals]
    have := foldl_setVals off vs (l.set (off + k) v) (k + 1)
    rw [← Nat.add_assoc] at this
    rw [← this]
    simp
/-- The rows of a slice, some of them set: row i lies at place i * z. -/
def setRows (z : Nat) : List Value → List (Nat × Value) → List Value
  | l, [] => l
  | l, (i, v) :: ps => setRows z (setVals l (i * z) v.cells.toList) ps
theorem fill_rows (z : Nat) : ∀ (ps : List (Nat × Value)) (l : List Value), (∀ p ∈ ps, p.2.cells.size = z ∧ p.1 * z + z ≤ l.length) →
    Instr.fill (fun i => some (i * z, z)) l.toArray ps = some (setRows z l ps).toArray
  | [], l, _ => rfl
  | (i, v) :: ps, l, h => by
    obtain ⟨h1, h2⟩ := h (i, v) List.mem_cons_self
    simp only at h1 h2
    rw [Instr.fill]
    have hsz : ¬ (v.cells.size ≠ z || i * z + v.cells.size > l.toArray.size) = true := by rw [h1]; simp; omega
    simp only []
    rw [if_neg hsz, setRows]
    have e : v.cells.zipIdx.foldl (fun cs (x : Value × Nat) => cs.setIfInBounds (i * z + x.2) x.1) l.toArray = (setVals l (i * z) v.cells.toList).toArray := by
      have := foldl_setVals (i * z) v.cells.toList l 0
      rw [Nat.add_zero] at this
      rw [← this]
      rw [← Array.foldl_toList, Array.toList_zipIdx]
    have ih := fill_rows z ps (setVals l (i * z) v.cells.toList) (fun p hp => by rw [setVals_length]; exact h p (List.mem_cons_of_mem _ hp))
    rw [← ih, ← e]

/-- The cells of what is known of a value. -/
def AV.row : AV → Option (List A0)
  | .one y => bif definite y then some [y] else none
  | .agg l => bif l.all definite then some l else none
  | _ => none
theorem row_rep {s : Nums} {β : Places} {n : Nat} {x : AV} {l : List A0} {v : Value} (h : x.row = some l) (hr : x.rep s β n v) :
    v.cells = (l.map (A0.conc s β)).toArray ∧ ∀ y ∈ l, definite y = true ∧ y.rep s β n (y.conc s β) := by
  cases x with
  | one y =>
    obtain ⟨hd, h2⟩ := bif_some h
    cases h2
    have hv := rep_conc hd hr
    have h1 := oneCell_conc (s := s) (β := β) hd
    refine ⟨?_, fun q hq => ?_⟩
    · show v.cells = #[A0.conc s β y]
      rw [hv]
      revert h1
      generalize A0.conc s β y = v
      intro h1
      cases v <;> first | rfl | (cases h1; done)
    · rw [List.mem_singleton.1 hq]
      exact ⟨hd, by rw [← hv]; exact hr⟩
  | agg l0 =>
    obtain ⟨hd, h2⟩ := bif_some h
    cases h2
    rw [List.all_eq_true] at hd
    obtain ⟨vs, rfl, hlen, hc⟩ := hr
    have hvs : vs = l.map (A0.conc s β) := by
      refine List.ext_getElem? fun j => ?_
      rw [List.getElem?_map]
      cases hj : l[j]? with
      | none =>
        have := List.getElem?_eq_none_iff.1 hj
        exact List.getElem?_eq_none_iff.2 (by omega)
      | some y =>
        have hjl := (List.getElem?_eq_some_iff.1 hj).1
        obtain ⟨u, hu⟩ : ∃ u, vs[j]? = some u := ⟨vs[j]'(by omega), List.getElem?_eq_getElem _⟩
        rw [hu, Option.map_some, rep_conc (hd y (List.mem_of_getElem? hj)) (hc j y u hj hu)]
    refine ⟨by rw [hvs]; rfl, fun y hy => ⟨hd y hy, ?_⟩⟩
    obtain ⟨j, hj⟩ := List.getElem?_of_mem hy
    have := hc j y (y.conc s β) hj (by rw [hvs, List.getElem?_map, hj]; rfl)
    exact this
  | two _ _ => cases h
  | tup _ => cases h

def buildRows (st : St) (z : Nat) : List A0 → List (Nat × Operand) → Option (List A0)
  | acc, [] => some acc
  | acc, (i, x) :: ps => match (st.ev x).row with
    | some l => bif decide (l.length = z) && decide (i * z + z ≤ acc.length) then buildRows st z (setRange acc (i * z) l) ps else none
    | none => none

theorem setVals_get : ∀ (vs l : List Value) (o j : Nat), o + vs.length ≤ l.length → (setVals l o vs)[j]? = if o ≤ j ∧ j < o + vs.length then vs[j - o]? else l[j]?
  | [], l, o, j, _ => by
    rw [setVals, if_neg (by simp only [List.length_nil]; omega)]
  | v :: vs, l, o, j, h => by
    simp only [List.length_cons] at h
    rw [setVals, setVals_get vs _ _ _ (by rw [List.length_set]; omega), List.getElem?_set]
    by_cases h1 : o = j
    · subst h1
      rw [if_neg (by omega), if_pos rfl, if_pos (by omega), if_pos (by simp only [List.length_cons]; omega), Nat.sub_self, List.getElem?_cons_zero]
    · by_cases h2 : o + 1 ≤ j ∧ j < o + 1 + vs.length
      · rw [if_pos h2, if_pos (by simp only [List.length_cons]; omega), show j - o = (j - (o + 1)) + 1 by omega, List.getElem?_cons_succ]
      · rw [if_neg h2, if_neg h1, if_neg (by simp only [List.length_cons]; omega)]

theorem buildRows_rep {s : Nums} {β : Places} {st : St} {a : Act} (ht : TmOk s β st.nr st.tm a) {z : Nat} : ∀ {ps : List (Nat × Operand)} {acc cells : List A0} {zs : List Value}, buildRows st z acc ps = some cells → zs.length = acc.length →
    (∀ (j : Nat) x v, acc[j]? = some x → zs[j]? = some v → x.rep s β st.nr v) →
    (∀ p ∈ ps.map (fun p => (p.1, a.eval p.2)), p.2.cells.size = z ∧ p.1 * z + z ≤ acc.length) ∧ cells.length = acc.length ∧ (setRows z zs (ps.map fun p => (p.1, a.eval p.2))).length = cells.length ∧
    ∀ (j : Nat) x v, cells[j]? = some x → (setRows z zs (ps.map fun p => (p.1, a.eval p.2)))[j]? = some v → x.rep s β st.nr v
  | [], acc, cells, zs, h, hl, hr => by
    cases h
    exact ⟨fun p hp => by simp at hp, rfl, hl, hr⟩
  | (i, x) :: ps, acc, cells, zs, h, hl, hr => by
    rw [buildRows] at h
    split at h
    · rename_i l hy
      obtain ⟨h1, h2⟩ := bif_some h
      simp only [Bool.and_eq_true, decide_eq_true_eq] at h1
      obtain ⟨hc, hd⟩ := row_rep hy (ev_rep ht x)
      have hcl : (a.eval x).cells.toList = l.map (A0.conc s β) := by rw [hc]
      obtain ⟨g1, g2, g3, g4⟩ := buildRows_rep ht (zs := setVals zs (i * z) (a.eval x).cells.toList) h2 (by rw [setVals_length, setRange_length, hl]) (fun j u v hu hv => by
        rw [setRange_get _ _ _ _ (by omega)] at hu
        rw [setVals_get _ _ _ _ (by rw [hcl, List.length_map]; omega), hcl, List.length_map] at hv
        by_cases hj : i * z ≤ j ∧ j < i * z + l.length
        · rw [if_pos hj] at hu hv
          rw [List.getElem?_map, hu] at hv
          cases hv
          exact (hd u (List.mem_of_getElem? hu)).2
        · rw [if_neg hj] at hu hv
          exact hr j u v hu hv)
      rw [setRange_length] at g1 g2
      refine ⟨fun p hp => ?_, g2, g3, g4⟩
      simp only [List.map_cons, List.mem_cons] at hp
      rcases hp with rfl | hp
      · refine ⟨?_, h1.2⟩
        show (a.eval x).cells.size = z
        rw [hc]
        simp [h1.1]
      · exact g1 p hp
    · cases h

/-- What must be known of the types of slices that are built, of pointers. -/
structure BldTab where
  bsl : TypeId → Option (List Value)
  one : TypeId → Bool
  ptr : TypeId → Bool
structure BldTab.Ok (P : Program) (B : BldTab) : Prop where
  bsl : ∀ t zs, B.bsl t = some zs → ∃ e i z, P.underlying t = some (.slice e) ∧ P.info? e = some i ∧ i.zero = some z ∧ z.cells = zs.toArray ∧ i.size = zs.length ∧ 0 < zs.length
  one : ∀ t, B.one t = true → ∃ e i, P.underlying t = some (.slice e) ∧ P.info? e = some i ∧ i.size = 1
  ptr : ∀ t, B.ptr t = true → ∃ e, P.underlying t = some (.pointer e)

def lBld (B : BldTab) : Lx := fun F st op => match op with
  | .buildSlice t n parts => match B.bsl t with
    | some zs => bif decide (0 < n) && decide (n < 100000) && decide (zs.length < 100) then
        (match buildRows st zs.length (litCells (List.replicate n zs).flatten) parts.toList with
        | some cells => some (.one (.slc st.nr 0 n n), { st with mem := (st.nr, cells) :: st.mem, nr := st.nr + 1 })
        | none => none) else none
    | none => none
  | .makeInterface t x => match B.ptr t with
    | true => some (.one .err, st)
    | false => none
  | .call c => match c.callee, c.args.toList, c.argTypes.toList with
    | .builtin .append, [x, y], [t, t'] => match st.ev x, st.ev y with
      | .one (.slc r o n cap), .one b => match b.asSl with
        | some (r2, o2, m) => bif B.one t && decide (t = t') && decide (n + m ≤ cap) then
            (match cellsAt st.mem r2 o2 m with
            | some l => match write F st r (o + n) l with
              | some st' => some (.one (.slc r o (n + m) cap), st')
              | none => none
            | none => none) else none
        | none => none
      | _, _ => none
    | .builtin .copy, [x, y], [t, t'] => match st.ev x, st.ev y with
      | .one a, .one b => match a.asSl, b.asSl with
        | some (r, o, n), some (r2, o2, m) => bif B.one t then
            (match cellsAt st.mem r2 o2 (min m n) with
            | some l => match write F st r o l with
              | some st' => some (.one (.lit (goInt ((min m n : Nat) : Int))), st')
              | none => none
            | none => none) else none
        | _, _ => none
      | _, _ => none
    | _, _, _ => none
  | _ => none

theorem flatten_get (zs : List Value) (hz : 0 < zs.length) : ∀ (n j : Nat), j < n * zs.length → (List.replicate n zs).flatten[j]? = zs[j % zs.length]?
  | 0, j, h => by omega
  | n + 1, j, h => by
    rw [List.replicate_succ, List.flatten_cons]
    by_cases hj : j < zs.length
    · rw [List.getElem?_append_left hj, Nat.mod_eq_of_lt hj]
    · rw [List.getElem?_append_right (by omega), flatten_get zs hz n _ (by have := Nat.succ_mul n zs.length; simp only [Nat.succ_eq_add_one] at this; omega)]
      rw [Nat.mod_eq_sub_mod (a := j) (by omega)]
theorem flatten_len (zs : List Value) (n : Nat) : (List.replicate n zs).flatten.length = n * zs.length := by
  simp

theorem zero_rows (zs : List Value) (hz : 0 < zs.length) (n : Nat) : (Array.range (n * zs.length)).map (zs.toArray[· % zs.toArray.size]!) = (List.replicate n zs).flatten.toArray := by
  apply Array.ext'
  refine List.ext_getElem? fun j => ?_
  simp only [Array.toList_map, Array.toList_range, List.getElem?_map]
  by_cases hj : j < n * zs.length
  · rw [flatten_get zs hz n j hj, List.getElem?_range hj]
    have : j % zs.length < zs.length := Nat.mod_lt _ hz
    simp [this]
  · rw [List.getElem?_eq_none (by simp; omega), List.getElem?_eq_none (by rw [flatten_len]; omega)]
    rfl

section
variable {P : Program} {s : Nums} {β : Places} {F : Fix} {w0 : World} {st : St} {a : Act} {w : World}

/-- The cells that a row of a region holds, as values. -/
theorem cells_vals (h : Rel F s β w0 st a w) {r o n : Nat} {l : List A0} (hl : cellsAt st.mem r o n = some l) (hd : ∀ x ∈ l, definite x = true) :
    l.length = n ∧ (∀ (j : Nat) v, (l.map (A0.conc s β))[j]? = some v → w.cell? ((at_ β r o).add j) = some v) ∧ (∀ x ∈ l, x.rep s β st.nr (x.conc s β)) ∧ ∀ v ∈ l.map (A0.conc s β), v.oneCell' = true := by
  obtain ⟨k, hk, hlen, hle, hj⟩ := cellsAt_ok (nr := 0) hl
  obtain ⟨_, hc⟩ := h.mem r k hk
  have key : ∀ (j : Nat) y, l[j]? = some y → w.cell? (at_ β r (o + j)) = some (y.conc s β) ∧ y.rep s β st.nr (y.conc s β) := fun j y hy => by
    have hjn : j < n := by
      have := (List.getElem?_eq_some_iff.1 hy).1
      omega
    obtain ⟨v, h1, h2⟩ := hc (o + j) y (by rw [← hj j hjn]; exact hy)
    have := rep_conc (hd y (List.mem_of_getElem? hy)) h2
    rw [← this]
    exact ⟨h1, h2⟩
  refine ⟨hlen, fun j v hv => ?_, fun x hx => ?_, fun v hv => ?_⟩
  · rw [List.getElem?_map] at hv
    cases hlj : l[j]? with
    | none => rw [hlj] at hv; cases hv
    | some y =>
      rw [hlj] at hv
      cases hv
      rw [at_add]
      exact (key j y hlj).1
  · obtain ⟨j, hj⟩ := List.getElem?_of_mem hx
    exact (key j x hj).2
  · obtain ⟨x, hx, rfl⟩ := List.mem_map.1 hv
    exact oneCell_conc (hd x hx)

theorem lBld_ok {B : BldTab} (hB : B.Ok P) : LextOk P (lBld B) := by
  refine ⟨fun {F st st' op av} hq => ?_, fun {s β F w0 st st' a w o av} hr hq hH => ?_⟩
  · unfold lBld at hq
    split at hq
    · split at hq
      · obtain ⟨_, h2⟩ := bif_some hq
        split at h2
        · cases h2
          exact ⟨⟨[], rfl, rfl⟩, Nat.le_succ _⟩
        · cases h2
      · cases hq
    · split at hq
      · cases hq; exact .refl _
      · cases hq
    · split at hq
      · split at hq
        · split at hq
          · obtain ⟨_, h2⟩ := bif_some hq
            split at h2
            · split at h2
              · rename_i hw; cases h2; exact write_grows hw (.refl _)
              · cases h2
            · cases h2
          · cases hq
        · cases hq
      · split at hq
        · split at hq
          · obtain ⟨_, h2⟩ := bif_some hq
            split at h2
            · split at h2
              · rename_i hw; cases h2; exact write_grows hw (.refl _)
              · cases h2
            · cases h2
          · cases hq
        · cases hq
      · cases hq
    · cases hq
  · intro next Q hn
    unfold lBld at hq
    split at hq
    · rename_i t n parts ho
      split at hq
      · rename_i zs hzs
        obtain ⟨hd, h2⟩ := bif_some hq
        simp only [Bool.and_eq_true, decide_eq_true_eq] at hd
        obtain ⟨⟨hn0, hn1⟩, hz100⟩ := hd
        split at h2
        · rename_i cells hcells
          cases h2
          obtain ⟨e, i, z, hu, hi, hz, hzc, hsz, hpos⟩ := hB.bsl _ _ hzs
          obtain ⟨g1, g2, g3, g4⟩ := buildRows_rep hr.tm (zs := (List.replicate n zs).flatten) hcells (by simp [litCells]) (fun j x v hx hv => lit_cells j x v hx hv _ _)
          have hfill := fill_rows zs.length (parts.toList.map fun p => (p.1, a.eval p.2)) (List.replicate n zs).flatten (fun p hp => by
            have := g1 p hp
            rw [litCells, List.length_map] at this
            exact this)
          have hb : n * zs.length < 100000 * 100 := Nat.mul_lt_mul'' hn1 hz100
          have hb0 : 0 < n * zs.length := Nat.mul_pos hn0 hpos
          have hrun := run_buildSlice (P := P) w t e n (parts.map fun (p : Nat × Operand) => (p.1, a.eval p.2)) _ i z hu hi hz (by rw [hsz]; omega) (by rw [hsz]; omega)
            (by rw [hsz, hzc, zero_rows zs hpos, Array.toList_map]; exact hfill)
          have hrun' : (execOp a.eval o).run P w = .ok (.value (.slice (some ⟨w.heap.size, 0, none⟩) n n)) (w.alloc (.cells (setRows zs.length (List.replicate n zs).flatten (parts.toList.map fun p => (p.1, a.eval p.2))).toArray e (0, 0))) := by
            simp only [execOp, ho, Sem.run_bind, hrun, Result.andThen, Sem.run_pure]
          refine upon_value_ok hrun' (hn _ _ ?_)
          obtain ⟨β', hag, hnew, hrel⟩ := hr.made e (cells := setRows zs.length (List.replicate n zs).flatten (parts.toList.map fun p => (p.1, a.eval p.2))) (l := cells) g3.symm
            (fun j x v hx hv β' hag => A0.rep_mono hag (Nat.le_succ _) (g4 j x v hx hv)) st.nx st.exs
          refine ⟨β', hag, ⟨?_, Nat.lt_succ_self _⟩, hrel⟩
          rw [at_, hnew]
        · cases h2
      · cases hq
    · rename_i t x ho
      split at hq
      · rename_i hp
        cases hq
        obtain ⟨e, hu⟩ := hB.ptr _ hp
        refine upon_value_ok (v := .iface t (a.eval x)) (w1 := w) ?_ (hn _ _ ⟨β, Agree.refl _ _, ⟨_, _, rfl⟩, hr⟩)
        simp only [execOp, ho, Instr.makeInterface, Sem.run_bind, run_underlying hu, Result.andThen, Sem.run_pure]
      · cases hq
    · rename_i c ho
      split at hq
      · rename_i x y t t' hcal hargs htys
        have hargs' : c.args = #[x, y] := by rw [← Array.toList_inj]; exact hargs
        have htys' : c.argTypes = #[t, t'] := by rw [← Array.toList_inj]; exact htys
        split at hq
        · rename_i r d n cap b hx hy
          split at hq
          · rename_i r2 o2 m hsl
            obtain ⟨hd, h2⟩ := bif_some hq
            simp only [Bool.and_eq_true, decide_eq_true_eq] at hd
            obtain ⟨⟨ht1, rfl⟩, hroom⟩ := hd
            split at h2
            · rename_i l hl
              split at h2
              · rename_i st1 hw
                cases h2
                have hxv := ev_rep hr.tm x
                rw [hx] at hxv
                have hyv := ev_rep hr.tm y
                rw [hy] at hyv
                obtain ⟨⟨c2, hv2, _⟩, _⟩ := asSl_rep hsl hyv
                obtain ⟨e, i, hu, hi, hsz⟩ := hB.one _ ht1
                obtain ⟨hlen, hcells, hreps, hone⟩ := cells_vals hr hl (write_def hw)
                obtain ⟨hrn, hrm⟩ := room_of hr hw rfl
                have hrun := run_append_room_cells (P := P) w t o.type e i hu hi (β r).1 ((β r).2 + d) n cap (at_ β r2 o2) m c2 (l.map (A0.conc s β)) (by rw [List.length_map, hsz]; omega) hcells hone hroom
                  (fun j hj => by
                    rw [List.length_map] at hj
                    obtain ⟨⟨v, hv⟩, _⟩ := hrm j hj
                    rw [hsz, Nat.mul_one, show (β r).2 + d + n + j = (β r).2 + (d + n) + j by omega, hv]; rfl)
                  (fun j hj => by
                    rw [List.length_map] at hj
                    rw [hsz, Nat.mul_one, show (β r).2 + d + n + j = (β r).2 + (d + n) + j by omega]
                    exact (hrm j hj).2)
                have hxv' : a.eval x = .slice (some ⟨(β r).1, (β r).2 + d, none⟩) n cap := hxv.1
                have hrun' : (execOp a.eval o).run P w = .ok (.value (.slice (some ⟨(β r).1, (β r).2 + d, none⟩) (n + m) cap)) (w.setCells (β r).1 ((β r).2 + (d + n)) (l.map (A0.conc s β))) := by
                  rw [hsz, Nat.mul_one, show (β r).2 + d + n = (β r).2 + (d + n) by omega] at hrun
                  simp only [execOp, ho, resolve, hcal, hargs', htys', Sem.run_bind, Sem.run_pure, Result.andThen, invoke, builtin, List.map_toArray, List.map_cons, List.map_nil, hxv', hv2, hrun]
                refine upon_value_ok hrun' (hn _ _ ⟨β, Agree.refl _ _, ⟨rfl, ?_⟩, hr.wrote hw (Below.refl _ _) hreps⟩)
                rw [(write_nr hw).1]
                exact hxv.2
              · cases h2
            · cases h2
          · cases hq
        · cases hq
      · rename_i x y t t' hcal hargs htys
        have hargs' : c.args = #[x, y] := by rw [← Array.toList_inj]; exact hargs
        have htys' : c.argTypes = #[t, t'] := by rw [← Array.toList_inj]; exact htys
        split at hq
        · rename_i xa b hx hy
          split at hq
          · rename_i r d n r2 o2 m hsl1 hsl
            obtain ⟨ht1, h2⟩ := bif_some hq
            split at h2
            · rename_i l hl
              split at h2
              · rename_i st1 hw
                cases h2
                have hxv := ev_rep hr.tm x
                rw [hx] at hxv
                have hyv := ev_rep hr.tm y
                rw [hy] at hyv
                obtain ⟨⟨c1, hv1, _⟩, _⟩ := asSl_rep hsl1 hxv
                obtain ⟨⟨c2, hv2, _⟩, _⟩ := asSl_rep hsl hyv
                obtain ⟨e, i, hu, hi, hsz⟩ := hB.one _ ht1
                obtain ⟨hlen, hcells, hreps, hone⟩ := cells_vals hr hl (write_def hw)
                obtain ⟨hrn, hrm⟩ := room_of hr hw rfl
                have hrun := run_copy_cells (P := P) w t t' o.type e (β r).1 ((β r).2 + d) n c1 (at_ β r2 o2) m c2 (l.map (A0.conc s β)) hu (by rw [hi]; simp [hsz]) (by rw [List.length_map]; exact hlen) hcells
                  (fun j hj => by
                    rw [List.length_map] at hj
                    obtain ⟨⟨v, hv⟩, _⟩ := hrm j hj
                    rw [hv]; rfl)
                  (fun j hj => by
                    rw [List.length_map] at hj
                    exact (hrm j hj).2) hone
                rw [List.length_map, hlen] at hrun
                have hv1' : a.eval x = .slice (some ⟨(β r).1, (β r).2 + d, none⟩) n c1 := hv1
                have hrun' : (execOp a.eval o).run P w = .ok (.value (goInt ((min m n : Nat) : Int))) (w.setCells (β r).1 ((β r).2 + d) (l.map (A0.conc s β))) := by
                  simp only [execOp, ho, resolve, hcal, hargs', htys', Sem.run_bind, Sem.run_pure, Result.andThen, invoke, builtin, List.map_toArray, List.map_cons, List.map_nil, hv1', hv2, hrun]
                exact upon_value_ok hrun' (hn _ _ ⟨β, Agree.refl _ _, rfl, hr.wrote hw (Below.refl _ _) hreps⟩)
              · cases h2
            · cases h2
          · cases hq
        · cases hq
      · cases hq
    · cases hq

end
end P224
/- The table of the program of P-224 with all operations. -/
namespace P224
open Go Go.RowKit Go.Proofs
set_option maxRecDepth 100000

def moreT : MoreTab where
  arr := fun t => findT t arrL
  slc := fun t => findT t slcL
  ifc := fun t => t == 66
  str := fun t => t == 9
theorem moreT_ok : moreT.Ok Try.prog where
  arr := (tab_ok false [] (fun _ _ h => by cases h)).arr
  slc := (tab_ok false [] (fun _ _ h => by cases h)).slc
  ifc := fun t h => by
    have h' := beq_iff_eq.1 h
    subst h'
    show Try.prog.underlying 66 = some (.interface (Try.prog.methodsAt 66))
    unfold Program.methodsAt
    rw [Try.underlying66]
  str := fun t h => by
    have h' := beq_iff_eq.1 h
    subst h'
    exact Try.underlying9

def bslL : List (Nat × List Value) := [(27, [.int .u8 0]), (23, [.int .i64 0, .int .i64 0]), (85, [.slice none 0 0])]
def bldT : BldTab where
  bsl := fun t => findT t bslL
  one := fun t => t == 27
  ptr := fun t => t == 120
theorem bsl_of {P : Program} {t e : TypeId} {z : Value} {zs : List Value} (h1 : P.underlying t = some (.slice e)) (h2 : (P.info? e).bind (·.zero) = some z) (hz : z.cells = zs.toArray) (h3 : (P.info? e).map (·.size) = some zs.length) (h4 : 0 < zs.length) :
    ∃ e i z, P.underlying t = some (.slice e) ∧ P.info? e = some i ∧ i.zero = some z ∧ z.cells = zs.toArray ∧ i.size = zs.length ∧ 0 < zs.length := by
  obtain ⟨i, hi, hs⟩ := info_size h3
  rw [hi] at h2
  exact ⟨e, i, z, h1, hi, h2, hz, hs, h4⟩
theorem bldT_ok : bldT.Ok Try.prog where
  bsl := by
    intro t zs h
    have := findT_mem h
    simp only [bslL, List.mem_cons, List.not_mem_nil, or_false, Prod.mk.injEq] at this
    rcases this with h | h | h <;> obtain ⟨rfl, rfl⟩ := h
    · exact bsl_of (z := .int .u8 0) Try.underlying27 (by kernel_rfl) rfl (by kernel_rfl) (by decide)
    · exact bsl_of (z := .agg #[.int .i64 0, .int .i64 0]) Try.underlying23 (by kernel_rfl) rfl (by kernel_rfl) (by decide)
    · exact bsl_of (z := .slice none 0 0) Try.underlying85 (by kernel_rfl) rfl (by kernel_rfl) (by decide)
  one := fun t h => by
    have h' := beq_iff_eq.1 h
    subst h'
    exact slc_of Try.underlying27 (by kernel_rfl)
  ptr := fun t h => by
    have h' := beq_iff_eq.1 h
    subst h'
    exact ⟨_, Try.underlying120⟩

def kindX (t : TypeId) : Option IntKind := findT t kindL
theorem kindX_ok : ∀ t k, kindX t = some k → Try.prog.underlying t = some (.int k) := (tab_ok false [] (fun _ _ h => by cases h)).kind

/-- The table with all operations; xs: the calls that are met by what is proved of them, or in place. -/
def tabX (asElem : Bool) (prims : List (Nat × Prim)) (xs : List (Nat × X)) : Tab :=
  { tabOf asElem prims with
    qext := Qx.or (qMore moreT) (Qx.or (qLit kindX) (qWord kindX))
    lext := Lx.or (lCalls xs) (lBld bldT) }
theorem tabX_ok {asElem : Bool} {prims : List (Nat × Prim)} {xs : List (Nat × X)} (hp : ∀ f p, (f, p) ∈ prims → PrimOk Try.prog f p) (hx : ∀ f g, (f, g) ∈ xs → XOk Try.prog f g) : (tabX asElem prims xs).Ok Try.prog :=
  let h := tab_ok asElem prims hp
  { mixed := h.mixed, arr := h.arr, fld := h.fld, var := h.var, zero := h.zero, bld := h.bld, slc := h.slc, mks := h.mks, kind := h.kind, elem := h.elem, prim := h.prim
    qext := QextOk.or (qMore_ok moreT_ok) (QextOk.or (qLit_ok kindX_ok) (qWord_ok kindX_ok))
    lext := LextOk.or (lCalls_ok hx) (lBld_ok bldT_ok) }

/-- The functions of the package that are taken in place, one behind another: each table may call what stands before it. -/
def with1 (xs : List (Nat × X)) (prims : List (Nat × Prim)) (fuel : Nat) (f : Nat) (fn : Func) : List (Nat × X) := (f, inlX (tabX true prims xs) fuel fn) :: xs
end P224
/- Runs that are held against what is expected, for many ways at once; lessOrEqBytes. -/
namespace P224
open Go Go.RowKit Go.Proofs
set_option maxRecDepth 100000
set_option linter.unusedVariables false

def Out.same : Out → Out → Bool
  | .normal, .normal => true
  | .ret, .ret => true
  | .exit i, .exit j => i == j
  | _, _ => false
theorem Out.same_eq {x y : Out} (h : x.same y = true) : x = y := by
  cases x <;> cases y <;> simp [Out.same] at h <;> first | rfl | (rw [h])
def optsSame : List (Option AV) → List (Option AV) → Bool
  | [], [] => true
  | x :: l, y :: m => optSame x y && optsSame l m
  | _, _ => false
theorem optsSame_eq : ∀ {x y : List (Option AV)}, optsSame x y = true → x = y
  | [], [], _ => rfl
  | x :: l, y :: m, h => by
    rw [optsSame, Bool.and_eq_true] at h
    rw [optSame_eq h.1, optsSame_eq h.2]
  | [], _ :: _, h | _ :: _, [], h => by simp [optsSame] at h
abbrev Brief := Option (Out × Nat × List Ex × List (Nat × Nat × A0) × List (Option AV))
def briefSame : Brief → Brief → Bool
  | some (o, n, e, u, l), some (o', n', e', u', l') => o.same o' && n == n' && decide (e = e') && outSame u u' && optsSame l l'
  | _, _ => false
theorem briefSame_eq {x y : Brief} (h : briefSame x y = true) : x = y := by
  unfold briefSame at h
  split at h
  · simp only [Bool.and_eq_true, beq_iff_eq, decide_eq_true_eq] at h
    obtain ⟨⟨⟨⟨h1, h2⟩, h3⟩, h4⟩, h5⟩ := h
    rw [Out.same_eq h1, h2, h3, outSame_eq h4, optsSame_eq h5]
  · cases h
theorem all_range {n : Nat} {p : Nat → Bool} (h : (List.range n).all p = true) {j : Nat} (hj : j < n) : p j = true := List.all_eq_true.1 h j (List.mem_range.2 hj)

/-- Rows of numbers. -/
def numsFrom (k : IntKind) : Nat → Nat → List A0
  | _, 0 => []
  | i, n + 1 => .num k i :: numsFrom k (i + 1) n

/-! ### lessOrEqBytes -/
def st110 : St := startSt [.one (.sl 0 0 28), .one (.sl 1 0 28)] [(0, numsFrom .u8 0 28), (1, numsFrom .u8 28 28)] 56 2
def fix110 (j : Nat) (b : Bool) : Fix := { nt := 35, nold := 2, wr := fun _ => false, sep := fun _ _ => false, dec := fun i => bif decide (i < 56) then none else bif decide (i < 56 + j) then some false else bif decide (i = 56 + j) && decide (j < 28) then some true else bif decide (i = 57 + j) && decide (j < 28) then some b else none }
def fneL : Nat → List Ex
  | 0 => []
  | n + 1 => .fne (.v n) (.v (28 + n)) :: fneL n
def want110 (j : Nat) (b : Bool) : Brief := bif decide (j < 28) then some (.ret, 58 + j, .op 4 [.v j, .v (28 + j)] :: fneL (j + 1), [], [some (.one (.lit (.int .i64 (bif b then 1 else 0))))])
  else some (.ret, 84, fneL 28, [], [some (.one (.lit (.int .i64 1)))])
def scope110 (j : Nat) (b : Bool) : Bool := match want110 j b with
  | some (_, n, e, _, _) => inScope n e && decide (e.length ≤ n) && n - e.length == 56
  | none => false
theorem run110 : ((List.range 29).all fun j => (briefSame (brief [4] (runF (tabX false [] []) (fix110 j true) 2000 Try.f110 st110)) (want110 j true) && scope110 j true) &&
    (briefSame (brief [4] (runF (tabX false [] []) (fix110 j false) 2000 Try.f110 st110)) (want110 j false) && scope110 j false)) = true := by kernel_rfl
end P224
/- lessOrEqBytes says whether one number of bytes is at most another one. -/
namespace P224
open Go Go.RowKit Go.Proofs
set_option maxRecDepth 100000
set_option linter.unusedVariables false
theorem fneL_holds {s : Nums} : ∀ n, Holds s (56 + n) (fneL n) → ∀ k, k < n → s (56 + k) = if s k = s (28 + k) then 0 else 1
  | 0, _, k, hk => by omega
  | n + 1, h, k, hk => by
    obtain ⟨h1, h2⟩ := h
    rw [show 56 + (n + 1) - 1 = 56 + n by omega] at h1 h2
    by_cases e : k = n
    · subst e; exact h1
    · exact fneL_holds n h2 k (by omega)

theorem row_nums {s : Nums} {β : Places} {n r : Nat} {w : World} : ∀ (m i j : Nat), (∀ k, k < m → w.cell? (at_ β r (j + k)) = some (.int .u8 (s (i + k) : Int)) ∧ s (i + k) < 256) → RowOk s β n r w j (numsFrom .u8 i m)
  | 0, _, _, _ => trivial
  | m + 1, i, j, h => by
    refine ⟨?_, row_nums m (i + 1) (j + 1) fun k hk => ?_⟩
    · obtain ⟨h1, h2⟩ := h 0 (by omega)
      exact ⟨_, h1, rfl, h2⟩
    · have := h (k + 1) (by omega)
      rw [show j + 1 + k = j + (k + 1) by omega, show i + 1 + k = i + (k + 1) by omega]
      exact this

theorem ofBytes_lt : ∀ (l : List Nat), (∀ x ∈ l, x < 256) → ofBytes l < 256 ^ l.length
  | [], _ => by decide
  | x :: l, h => by
    have h1 := ofBytes_lt l fun y hy => h y (List.mem_cons_of_mem _ hy)
    have h2 := h x List.mem_cons_self
    rw [ofBytes, List.length_cons, Nat.pow_succ]
    have h3 : x * 256 ^ l.length ≤ 255 * 256 ^ l.length := Nat.mul_le_mul_right _ (by omega)
    omega
theorem ofBytes_cmp : ∀ (xs ys : List Nat) (j x y : Nat), xs.length = ys.length → (∀ z ∈ xs, z < 256) → (∀ k, k < j → xs[k]? = ys[k]?) → xs[j]? = some x → ys[j]? = some y → x < y → ofBytes xs < ofBytes ys
  | x :: xs, y :: ys, 0, _, _, hl, hx, _, e1, e2, h => by
    cases e1; cases e2
    have h1 := ofBytes_lt xs fun z hz => hx z (List.mem_cons_of_mem _ hz)
    have hl' : xs.length = ys.length := by simpa using hl
    rw [ofBytes, ofBytes, ← hl']
    have h2 : (x + 1) * 256 ^ xs.length ≤ y * 256 ^ xs.length := Nat.mul_le_mul_right _ h
    rw [Nat.add_mul, Nat.one_mul] at h2
    omega
  | x :: xs, y :: ys, j + 1, u, v, hl, hx, hk, e1, e2, h => by
    have h0 := hk 0 (by omega)
    simp only [List.getElem?_cons_zero, Option.some.injEq] at h0
    subst h0
    have hl' : xs.length = ys.length := by simpa using hl
    have := ofBytes_cmp xs ys j u v hl' (fun z hz => hx z (List.mem_cons_of_mem _ hz)) (fun k hk' => by simpa using hk (k + 1) (by omega)) (by simpa using e1) (by simpa using e2) h
    rw [ofBytes, ofBytes, hl']
    omega
  | [], _, _, _, _, _, _, _, e1, _, _ => by simp at e1
  | _ :: _, [], _, _, _, _, _, _, _, e2, _ => by simp at e2

theorem lt12' : 1 < 2 := by decide

/-- The first place where two rows differ, if any. -/
theorem first_diff (g h : Nat → Nat) : ∀ n : Nat, (∀ k, k < n → g k = h k) ∨ ∃ j, j < n ∧ (∀ k, k < j → g k = h k) ∧ g j ≠ h j
  | 0 => .inl fun k hk => by omega
  | n + 1 => by
    rcases first_diff g h n with e | ⟨j, h1, h2, h3⟩
    · by_cases e' : g n = h n
      · exact .inl fun k hk => by
          by_cases ek : k = n
          · subst ek; exact e'
          · exact e k (by omega)
      · exact .inr ⟨n, by omega, e, e'⟩
    · exact .inr ⟨j, by omega, h2, h3⟩

theorem tabN_ok : (tabX false [] []).Ok Try.prog := tabX_ok (fun _ _ h => by cases h) (fun _ _ h => by cases h)

theorem brief110 (j : Nat) (hj : j < 29) (b : Bool) : brief [4] (runF (tabX false [] []) (fix110 j b) 2000 Try.f110 st110) = want110 j b ∧ scope110 j b = true := by
  have h := all_range run110 hj
  simp only [Bool.and_eq_true] at h
  cases b with
  | true => exact ⟨briefSame_eq h.1.1, h.1.2⟩
  | false => exact ⟨briefSame_eq h.2.1, h.2.2⟩

/-- Twenty-eight bytes by a function. -/
def rowF (g : Nat → Nat) : List Nat := (List.range 28).map g
theorem rowF_len (g : Nat → Nat) : (rowF g).length = 28 := by simp [rowF]
theorem rowF_get (g : Nat → Nat) {k : Nat} (hk : k < 28) : (rowF g)[k]? = some (g k) := by
  rw [rowF, List.getElem?_map, List.getElem?_range hk]; rfl
theorem rowF_lt {g : Nat → Nat} (h : ∀ k, k < 28 → g k < 256) : ∀ x ∈ rowF g, x < 256 := by
  intro x hx
  obtain ⟨k, hk, rfl⟩ := List.mem_map.1 hx
  exact h k (List.mem_range.1 hk)
theorem rowF_congr {g h : Nat → Nat} (e : ∀ k, k < 28 → g k = h k) : rowF g = rowF h := by
  refine List.map_congr_left fun k hk => e k (List.mem_range.1 hk)

theorem meets110 (w : World) (b1 o1 c1 b2 o2 c2 : Nat) (g h : Nat → Nat) (hc1 : 28 ≤ c1) (hc2 : 28 ≤ c2) (hg : BytesAt w b1 o1 g) (hh : BytesAt w b2 o2 h) :
    Meets Try.prog 110 #[.slice (some ⟨b1, o1, none⟩) 28 c1, .slice (some ⟨b2, o2, none⟩) 28 c2] w fun v w' => v = .int .i64 (((if ofBytes (rowF g) ≤ ofBytes (rowF h) then 1 else 0) : Nat) : Int) ∧ Below w.heap.size w w' := by
  refine meets_of_calls Try.func110 (by kernel_rfl) (by kernel_rfl) ?_
  let β : Places := fun r => if r = 0 then (b1, o1) else (b2, o2)
  let s0 : Nums := fun i => if i < 28 then g i else h (i - 28)
  have s0g : ∀ k, k < 28 → s0 k = g k := fun k hk => if_pos hk
  have s0h : ∀ k, k < 28 → s0 (28 + k) = h k := fun k hk => by
    show (if 28 + k < 28 then _ else h (28 + k - 28)) = h k
    rw [if_neg (by omega), Nat.add_sub_cancel_left]
  have key : ∀ (j : Nat) (hj : j < 29) (b : Bool) (n : Nat) (ex : List Ex) (q : Int), want110 j b = some (.ret, n, ex, [], [some (.one (.lit (.int .i64 q)))]) →
      (∀ s : Nums, (∀ i, i < 56 → s i = s0 i) → Holds s n ex → Dec (fix110 j b) s) → q = (((if ofBytes (rowF g) ≤ ofBytes (rowF h) then 1 else 0) : Nat) : Int) →
      Calls Try.prog 110 #[.slice (some ⟨b1, o1, none⟩) 28 c1, .slice (some ⟨b2, o2, none⟩) 28 c2] w fun e w' => ∃ v, e = .returned v ∧ v = .int .i64 (((if ofBytes (rowF g) ≤ ofBytes (rowF h) then 1 else 0) : Nat) : Int) ∧ Below w.heap.size w w' := by
    intro j hj b n ex q hw hdec hq
    obtain ⟨hb, hs⟩ := brief110 j hj b
    rw [hw] at hb
    rw [scope110, hw] at hs
    simp only [Bool.and_eq_true, decide_eq_true_eq, beq_iff_eq] at hs
    refine calls_brief tabN_ok hb Try.func110 Try.ntmps110 (res := some 4) ⟨.inr rfl, Try.results110⟩ hs.1.1 hs.1.2 hs.2 (show 2 ≤ 35 by decide) (show 2 < 4095 by decide) s0 β
      (vals := [.slice (some ⟨b1, o1, none⟩) 28 c1, .slice (some ⟨b2, o2, none⟩) 28 c2]) (fun s hs => ⟨⟨c1, hc1, rfl, lt02⟩, ⟨c2, hc2, rfl, lt12⟩, trivial⟩) ?_ ?_ ?_ (fun r q _ _ h => by cases h) hdec ?_
    · intro s hs
      refine ⟨lt02, row_nums 28 0 0 fun k hk => ?_, lt12, row_nums 28 28 0 fun k hk => ?_, trivial⟩
      · obtain ⟨e1, e2⟩ := hg k hk
        rw [Nat.zero_add, hs _ (by omega)]
        show w.cell? ⟨b1, o1 + k, none⟩ = some (.int .u8 ((if k < 28 then g k else h (k - 28) : Nat) : Int)) ∧ (if k < 28 then g k else h (k - 28)) < 256
        rw [if_pos hk]
        exact ⟨e1, e2⟩
      · obtain ⟨e1, e2⟩ := hh k hk
        rw [Nat.zero_add, hs _ (by omega)]
        show w.cell? ⟨b2, o2 + k, none⟩ = some (.int .u8 ((if 28 + k < 28 then g (28 + k) else h (28 + k - 28) : Nat) : Int)) ∧ (if 28 + k < 28 then g (28 + k) else h (28 + k - 28)) < 256
        rw [if_neg (by omega), Nat.add_sub_cancel_left]
        exact ⟨e1, e2⟩
    · intro r l hl hr
      cases hr
    · intro r _
      show (if r = 0 then (b1, o1) else (b2, o2)).1 < _
      split
      · exact World.block_lt_of_cell? w _ (hg 0 (by decide)).1
      · exact World.block_lt_of_cell? w _ (hh 0 (by decide)).1
    · intro s hs hH st' β' a' w' hts hag hr hbe
      have r4 := hr.tm 4 _ (map_get hts 0 4 _ rfl rfl)
      have r4' : a'.tmps.getD 4 undef = .int .i64 q := r4
      exact ⟨_, rfl, by show a'.tmps.getD 4 undef = _; rw [r4', hq], hbe⟩
  have gl : ∀ k, k < 28 → g k < 256 := fun k hk => (hg k hk).2
  have hl : ∀ k, k < 28 → h k < 256 := fun k hk => (hh k hk).2
  rcases first_diff g h 28 with e | ⟨j, hj, e, hne⟩
  · refine key 28 (by omega) false 84 (fneL 28) 1 rfl ?_ ?_
    · intro s hs hH i b hb
      have hb' : (bif decide (i < 56) then none else bif decide (i < 56 + 28) then some false else bif decide (i = 56 + 28) && decide (28 < 28) then some true else bif decide (i = 57 + 28) && decide (28 < 28) then some false else none) = some b := hb
      by_cases h1 : i < 56
      · rw [decide_eq_true h1] at hb'; cases hb'
      · rw [decide_eq_false h1] at hb'
        by_cases h2 : i < 56 + 28
        · rw [decide_eq_true h2] at hb'
          cases hb'
          have := fneL_holds 28 hH (i - 56) (by omega)
          rw [show 56 + (i - 56) = i by omega, hs (i - 56) (by omega), hs (28 + (i - 56)) (by omega)] at this
          rw [this, s0g (i - 56) (by omega), s0h (i - 56) (by omega), if_pos (e (i - 56) (by omega))]
          rfl
        · rw [decide_eq_false h2] at hb'
          simp at hb'
    · rw [rowF_congr e, if_pos (Nat.le_refl _)]
      rfl
  · refine key j (by omega) (decide (g j < h j)) (58 + j) (.op 4 [.v j, .v (28 + j)] :: fneL (j + 1)) (bif decide (g j < h j) then 1 else 0) ?_ ?_ ?_
    · rw [want110, decide_eq_true hj]
      cases decide (g j < h j) <;> rfl
    · intro s hs hH i b hb
      have hb' : (bif decide (i < 56) then none else bif decide (i < 56 + j) then some false else bif decide (i = 56 + j) && decide (j < 28) then some true else bif decide (i = 57 + j) && decide (j < 28) then some (decide (g j < h j)) else none) = some b := hb
      obtain ⟨hH1, hH2⟩ := hH
      rw [show 58 + j - 1 = 57 + j by omega] at hH1 hH2
      have hf := fneL_holds (j + 1) (by rw [show 56 + (j + 1) = 57 + j by omega]; exact hH2)
      have sg : ∀ k, k < 28 → s k = g k := fun k hk => by
        rw [hs k (by omega)]
        show (if k < 28 then g k else _) = g k
        rw [if_pos hk]
      have sh : ∀ k, k < 28 → s (28 + k) = h k := fun k hk => by
        rw [hs _ (by omega)]
        show (if 28 + k < 28 then _ else h (28 + k - 28)) = h k
        rw [if_neg (by omega), Nat.add_sub_cancel_left]
      by_cases h1 : i < 56
      · rw [decide_eq_true h1] at hb'; cases hb'
      · rw [decide_eq_false h1] at hb'
        by_cases h2 : i < 56 + j
        · rw [decide_eq_true h2] at hb'
          cases hb'
          have := hf (i - 56) (by omega)
          rw [show 56 + (i - 56) = i by omega, sg (i - 56) (by omega), sh (i - 56) (by omega), if_pos (e _ (by omega))] at this
          rw [this]; rfl
        · rw [decide_eq_false h2, decide_eq_true hj] at hb'
          by_cases h3 : i = 56 + j
          · subst h3
            rw [decide_eq_true rfl] at hb'
            cases hb'
            rw [hf j (by omega), sg j hj, sh j hj, if_neg hne]
            rfl
          · rw [decide_eq_false h3] at hb'
            by_cases h4 : i = 57 + j
            · subst h4
              rw [decide_eq_true rfl] at hb'
              cases hb'
              rw [hH1]
              show (if s j < s (28 + j) then 1 else 0) = _
              rw [sg j hj, sh j hj]
              by_cases hlt : g j < h j
              · rw [if_pos hlt, decide_eq_true hlt]; rfl
              · rw [if_neg hlt, decide_eq_false hlt]; rfl
            · rw [decide_eq_false h4] at hb'
              cases hb'
    · by_cases hlt : g j < h j
      · have := ofBytes_cmp (rowF g) (rowF h) j (g j) (h j) (by rw [rowF_len, rowF_len]) (rowF_lt gl) (fun k hk => by rw [rowF_get g (by omega), rowF_get h (by omega), e k hk]) (rowF_get g hj) (rowF_get h hj) hlt
        rw [decide_eq_true hlt, if_pos (Nat.le_of_lt this)]
        rfl
      · have := ofBytes_cmp (rowF h) (rowF g) j (h j) (g j) (by rw [rowF_len, rowF_len]) (rowF_lt hl) (fun k hk => by rw [rowF_get g (by omega), rowF_get h (by omega), e k hk]) (rowF_get h hj) (rowF_get g hj) (by omega)
        rw [decide_eq_false hlt, if_neg (by omega)]
        rfl
end P224
