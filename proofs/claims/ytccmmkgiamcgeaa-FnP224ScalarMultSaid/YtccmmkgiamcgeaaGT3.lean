/- The package's points, in place. -/
import Derived.Test.YtccmmkgiamcgeaaGT1
import Derived.Tactics
import Derived.Tactics2
import Derived.Laws.BytesArg
import Derived.Laws.Slices
set_option linter.all false
namespace P224
open Go Go.RowKit Go.Proofs
set_option maxRecDepth 100000
set_option linter.unusedVariables false

noncomputable def xi0 : List (Nat × X) := (94, x94) :: (74, x74) :: (69, x69) :: (52, x52) :: with1 x100 [] 2000 78 Try.f78
theorem xi0_ok : XsOk xi0 := xcons_ok x94_ok (xcons_ok x74_ok (xcons_ok x69_ok (xcons_ok x52_ok (with1_ok noPrims_ok x100_ok Try.func78 (by kernel_rfl)))))
noncomputable def xi1 : List (Nat × X) := with1 (with1 (with1 (with1 xi0 pointPrims 2000 98 Try.f98) pointPrims 2000 116 Try.f116) pointPrims 2000 103 Try.f103) pointPrims 2000 50 Try.f50
theorem xi1_ok : XsOk xi1 := with1_ok pointPrims_ok (with1_ok pointPrims_ok (with1_ok pointPrims_ok (with1_ok pointPrims_ok xi0_ok Try.func98 (by kernel_rfl)) Try.func116 (by kernel_rfl)) Try.func103 (by kernel_rfl)) Try.func50 (by kernel_rfl)
noncomputable def xi2 : List (Nat × X) := with1 (with1 (with1 xi1 pointPrims 2000 102 Try.f102) pointPrims 2000 73 Try.f73) pointPrims 2000 81 Try.f81
theorem xi2_ok : XsOk xi2 := with1_ok pointPrims_ok (with1_ok pointPrims_ok (with1_ok pointPrims_ok xi1_ok Try.func102 (by kernel_rfl)) Try.func73 (by kernel_rfl)) Try.func81 (by kernel_rfl)
noncomputable def xi3 : List (Nat × X) := with1 (with1 xi2 pointPrims 2000 53 Try.f53) pointPrims 2000 85 Try.f85
theorem xi3_ok : XsOk xi3 := with1_ok pointPrims_ok (with1_ok pointPrims_ok xi2_ok Try.func53 (by kernel_rfl)) Try.func85 (by kernel_rfl)
noncomputable def xi4 : List (Nat × X) := with1 (with1 xi3 pointPrims 2000 61 Try.f61) pointPrims 2000 49 Try.f49
theorem xi4_ok : XsOk xi4 := with1_ok pointPrims_ok (with1_ok pointPrims_ok xi3_ok Try.func61 (by kernel_rfl)) Try.func49 (by kernel_rfl)
noncomputable def xi5 : List (Nat × X) := with1 xi4 pointPrims 2000 72 Try.f72
theorem xi5_ok : XsOk xi5 := with1_ok pointPrims_ok xi4_ok Try.func72 (by kernel_rfl)
end P224
/- The comparison of bytes, as a call that the executor knows. -/
namespace P224
open Go Go.RowKit Go.Proofs
set_option maxRecDepth 100000
set_option linter.unusedVariables false

theorem calls22 (w : World) (u v : Value) (x y : ByteArray) (h1 : (convert 27 9 u).run Try.prog w = .ok (.string x) w) (h2 : (convert 27 9 v).run Try.prog w = .ok (.string y) w) :
    Calls Try.prog 22 #[u, v] w fun e w' => ∃ v, e = .returned v ∧ v = .bool (x.toList == y.toList) ∧ w' = w := by
  go_enter Try.func22, Try.ntmps22
  go_wp2
  go_ret
  exact ⟨_, rfl, rfl, rfl⟩

theorem bytes_back : ∀ (L : List Nat), (∀ n ∈ L, n < 256) → ((L.map Int.ofNat).map fun n => UInt8.ofNat n.toNat).map UInt8.toNat = L
  | [], _ => rfl
  | x :: L, h => by
    have h0 := h x List.mem_cons_self
    rw [List.map_cons, List.map_cons, List.map_cons, bytes_back L fun n hn => h n (List.mem_cons_of_mem _ hn)]
    congr 1
    simp
    omega
theorem str_eq {A B : List Nat} (hA : ∀ n ∈ A, n < 256) (hB : ∀ n ∈ B, n < 256) : ((strOfNums (A.map Int.ofNat)).toList == (strOfNums (B.map Int.ofNat)).toList) = decide (A = B) := by
  rw [ByteArray.toList_eq, ByteArray.toList_eq, strOfNums_data, strOfNums_data]
  by_cases h : A = B
  · subst h
    simp
  · rw [decide_eq_false h, beq_eq_false_iff_ne]
    intro e
    apply h
    rw [← bytes_back A hA, ← bytes_back B hB, e]

section
variable {s : Nums} {β : Places} {F : Fix} {w0 : World} {st : St} {a : Act} {w : World}
theorem words_str (h : Rel F s β w0 st a w) {r o n : Nat} {l : List Wd} (hw : wordsAt .u8 st.mem r o n = some l) (c : Nat) :
    (convert 27 9 (.slice (some (at_ β r o)) n c)).run Try.prog w = .ok (.string (strOfNums ((vals s l).map Int.ofNat))) w ∧ (∀ n ∈ vals s l, n < 256) ∧ l.length = n := by
  obtain ⟨h1, h2, h3⟩ := wordsAt_rep h hw
  refine ⟨run_convert_bytes_arg (w := w) 27 5 Try.underlying27 Try.underlying5 (β r).1 ((β r).2 + o) n c _ (by rw [List.length_map, vals, List.length_map, h1]) (fun i hi => ?_) 9 Try.underlying9, fun x hx => ?_, h1⟩
  · obtain ⟨x, hx⟩ : ∃ x, l[i]? = some x := ⟨l[i]'(by omega), List.getElem?_eq_getElem _⟩
    obtain ⟨g1, g2⟩ := h3 i x hx
    have e : ((vals s l).map Int.ofNat).getD i 0 = (x.val s : Int) := by rw [List.getD_eq_getElem?_getD, vals, List.getElem?_map, List.getElem?_map, hx]; rfl
    rw [e]
    rw [at_, ← Nat.add_assoc] at g1
    exact g1
  · obtain ⟨y, hy, rfl⟩ := List.mem_map.1 hx
    obtain ⟨j, hj⟩ := List.getElem?_of_mem hy
    exact (h3 j y hj).2
end

def x22 : X := fun F st args => match args with
  | [.one x, .one y] => match x.asSl, y.asSl with
    | some (r1, o1, n), some (r2, o2, m) => match wordsAt .u8 st.mem r1 o1 n, wordsAt .u8 st.mem r2 o2 m with
      | some l, some k => bif n == m then some (.one (.bl st.nx), { st with nx := st.nx + 1, exs := .op 19 (l ++ k) :: st.exs }) else some (.one (.lit (.bool false)), st)
      | _, _ => none
    | _, _ => none
  | _ => none

theorem opVal_19 (A B : List Nat) (h : A.length = B.length) : opVal 19 (A ++ B) = if A = B then 1 else 0 := by
  have e : opVal 19 (A ++ B) = if (A ++ B).take ((A ++ B).length / 2) = (A ++ B).drop ((A ++ B).length / 2) then 1 else 0 := rfl
  rw [e, List.length_append, show (A.length + B.length) / 2 = A.length by omega, List.take_left, List.drop_left]

theorem x22_ok : XOk Try.prog 22 x22 := by
  refine ⟨fun {F st st' args av} h => ?_, fun {s β F w0 st st' a w args vs av} hr h hargs hH => ?_⟩
  · unfold x22 at h
    split at h
    · split at h
      · split at h
        · rw [cond_eq_ite] at h
          split at h
          · cases h; exact ⟨⟨[_], rfl, rfl⟩, Nat.le_refl _⟩
          · cases h; exact .refl _
        · cases h
      · cases h
    · cases h
  · unfold x22 at h
    split at h
    · rename_i x y
      split at h
      · rename_i r1 o1 n r2 o2 m hx hy
        split at h
        · rename_i l k hl hk
          obtain ⟨u, v, rfl, hu, hv⟩ := avs2 hargs
          obtain ⟨⟨ca, hva, hca⟩, _⟩ := asSl_rep hx hu
          obtain ⟨⟨cb, hvb, hcb⟩, _⟩ := asSl_rep hy hv
          subst hva
          subst hvb
          obtain ⟨a1, a2, a3⟩ := words_str hr hl ca
          obtain ⟨b1, b2, b3⟩ := words_str hr hk cb
          have hme := meets_of_calls Try.func22 (by kernel_rfl) (by kernel_rfl) (calls22 w _ _ _ _ a1 b1)
          rw [str_eq a2 b2] at hme
          have hA : (vals s l).length = n := by rw [vals, List.length_map, a3]
          have hB : (vals s k).length = m := by rw [vals, List.length_map, b3]
          intro o' a' next Q hn
          refine hme o' a' next Q fun v' w' ⟨hv', hw'⟩ => hn _ _ ?_
          subst hw'
          cases hb : (n == m) with
          | true =>
            rw [hb, cond_true] at h
            cases h
            have hnm := beq_iff_eq.1 hb
            have he : s st.nx = opVal 19 ((l ++ k).map (Wd.val s)) := hH.1
            rw [List.map_append] at he
            have he2 := he.trans (opVal_19 (vals s l) (vals s k) (by omega))
            obtain ⟨e1, e2⟩ := bool_of he2
            exact ⟨β, Agree.refl _ _, ⟨by rw [hv', e1], e2⟩, hr.nums _ _⟩
          | false =>
            rw [hb, cond_false] at h
            cases h
            have hnm : n ≠ m := by rw [beq_eq_false_iff_ne] at hb; exact hb
            have : ¬ vals s l = vals s k := fun e => hnm (by rw [← hA, ← hB, e])
            exact ⟨β, Agree.refl _ _, by rw [hv', decide_eq_false this]; rfl, hr⟩
        · cases h
      · cases h
    · cases h
end P224
