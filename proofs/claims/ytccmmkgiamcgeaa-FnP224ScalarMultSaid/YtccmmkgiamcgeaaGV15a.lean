/- Arrays of bytes. -/
import Derived.Test.YtccmmkgiamcgeaaGV13
set_option linter.all false
namespace P224
open Go Go.RowKit Go.Proofs
set_option maxRecDepth 100000
set_option linter.unusedVariables false

/-- An array of bytes. -/
def arrV (ks : List Nat) : Value := .agg (ks.map fun (x : Nat) => Value.int .u8 (x : Int)).toArray
/-- Twenty-eight bytes. -/
def Is28 (ks : List Nat) : Prop := ks.length = 28 ∧ ∀ x ∈ ks, x < 256
theorem numsFrom_get {k : IntKind} : ∀ {n i j : Nat} {a : A0}, (numsFrom k i n)[j]? = some a → a = .num k (i + j) ∧ j < n
  | 0, i, j, a, h => by simp [numsFrom] at h
  | n + 1, i, 0, a, h => by
    cases (show some (A0.num k i) = some a from h)
    exact ⟨rfl, Nat.succ_pos _⟩
  | n + 1, i, j + 1, a, h => by
    have h' : (numsFrom k (i + 1) n)[j]? = some a := h
    obtain ⟨e, hj⟩ := numsFrom_get h'
    exact ⟨by rw [e, show i + 1 + j = i + (j + 1) by omega], by omega⟩
theorem numsFrom_len (k : IntKind) : ∀ (n i : Nat), (numsFrom k i n).length = n
  | 0, _ => rfl
  | n + 1, i => by
    show (numsFrom k (i + 1) n).length + 1 = n + 1
    rw [numsFrom_len k n (i + 1)]
theorem agg_rep {s : Nums} {β : Places} {n i : Nat} {ks : List Nat} (h : Is28 ks) (hs : ∀ m, m < 28 → s (i + m) = ks.getD m 0) : (AV.agg (numsFrom .u8 i 28)).rep s β n (arrV ks) := by
  refine ⟨_, rfl, by rw [List.length_map, h.1, numsFrom_len], fun j a x ha hx => ?_⟩
  obtain ⟨rfl, hj⟩ := numsFrom_get ha
  have hk : ks[j]? = some (ks.getD j 0) := by rw [List.getD_eq_getElem?_getD, List.getElem?_eq_getElem (by rw [h.1]; exact hj)]; rfl
  rw [List.getElem?_map, hk] at hx
  cases hx
  refine ⟨by rw [hs j hj], ?_⟩
  rw [hs j hj]
  exact h.2 _ (List.mem_of_getElem? hk)
theorem kb_of {s : Nums} {b : Nat} {ks : List Nat} (h : Is28 ks) (hs : ∀ m, m < 28 → s (b + m) = ks.getD m 0) : ofBytes ((List.range 28).map fun i => s (b + i)) = ofBytes ks := by
  rw [← range_getD h.1]
  congr 1
  apply List.map_congr_left
  intro i hi
  exact hs i (List.mem_range.1 hi)


end P224
