/- From a row's slice of bytes to the executor's. -/
import Derived.Test.YtccmmkgiamcgeaaGR2
import Derived.Test.YtccmmkgiamcgeaaGRB
set_option linter.all false
namespace Go.Proofs.Ytccmmkgiamcgeaa.Base
open P224
open Go.ChangeShapes Go.WideShapes Go.ChangeAt Go.RowKit
set_option linter.unusedVariables false

theorem byte_nat {z : Int} (h : (Lit.int .u8 z).wf = true) : ∃ m : Nat, z = (m : Int) ∧ m < 256 := by
  have hb := bounds_u8 h
  exact ⟨z.toNat, by omega, by omega⟩

theorem sl_of {w : World} {a : Option Addr} {len cap : Nat} {zs : List Int} (h : IsRow w a len cap zs) (hpos : 0 < w.heap.size) : ∃ b o u d f, Sl w (.slice a len cap) b o len u d f := by
  rcases h with ⟨rfl, rfl, rfl, rfl⟩ | ⟨x, rfl, h1, h2, h3, h4, h5, h6, h7⟩
  · exact ⟨0, 0, 0, 1, isPt [], ⟨rfl, Nat.le_refl _, fun _ => rfl, hpos, by decide, [], rfl, fun z hz => by simp at hz, fun k z hz => by simp at hz, rfl⟩⟩
  · obtain ⟨b, o, sp⟩ := x
    simp only at h6 h7
    subst h6
    refine ⟨b, o, cap, 0, isPt ((zs.take len).map Int.toNat), ⟨rfl, h1, fun e => (by cases e), h7, ?_, (zs.take len).map Int.toNat, ?_, ?_, ?_, rfl⟩⟩
    · have : maxLen < 2 ^ 63 := by decide
      omega
    · rw [List.length_map, List.length_take]; omega
    · intro z hz
      obtain ⟨y, hy, rfl⟩ := List.mem_map.1 hz
      obtain ⟨m, rfl, hm⟩ := byte_nat (h5 y (List.mem_of_mem_take hy))
      simpa using hm
    · intro k z hz
      rw [List.getElem?_map] at hz
      by_cases hk : k < len
      · rw [List.getElem?_take_of_lt hk] at hz
        obtain ⟨y, hy⟩ : ∃ y, zs[k]? = some y := ⟨zs[k]'(by omega), List.getElem?_eq_getElem _⟩
        rw [hy] at hz
        cases hz
        obtain ⟨m, rfl, hm⟩ := byte_nat (h5 y (List.mem_of_getElem? hy))
        have := h4 k (by omega)
        rw [List.getD_eq_getElem?_getD, hy] at this
        have e : (⟨b, o, none⟩ : Addr).add k = ⟨b, o + k, none⟩ := by unfold Addr.add; split <;> simp_all
        rw [e] at this
        simpa using this
      · rw [List.getElem?_eq_none (by rw [List.length_take]; omega)] at hz
        cases hz
end Go.Proofs.Ytccmmkgiamcgeaa.Base
