/- The reference's constants: numbers by their figures. -/
import Derived.Test.YtccmmkgiamcgeaaGS8
set_option linter.all false
namespace P224
open Go Go.RowKit Go.Proofs
set_option maxRecDepth 100000
set_option linter.unusedVariables false

def strB : ByteArray := ⟨#[98, 52, 48, 53, 48, 97, 56, 53, 48, 99, 48, 52, 98, 51, 97, 98, 102, 53, 52, 49, 51, 50, 53, 54, 53, 48, 52, 52, 98, 48, 98, 55, 100, 55, 98, 102, 100, 56, 98, 97, 50, 55, 48, 98, 51, 57, 52, 51, 50, 51, 53, 53, 102, 102, 98, 52]⟩
def numB : Nat := 18958286285566608000408668544493926415504680968679321075787234672564
def strO : ByteArray := ⟨#[102, 102, 102, 102, 102, 102, 102, 102, 102, 102, 102, 102, 102, 102, 102, 102, 102, 102, 102, 102, 102, 102, 102, 102, 102, 102, 102, 102, 49, 54, 97, 50, 101, 48, 98, 56, 102, 48, 51, 101, 49, 51, 100, 100, 50, 57, 52, 53, 53, 99, 53, 99, 50, 97, 51, 100]⟩
def numO : Nat := 26959946667150639794667015087019625940457807714424391721682722368061
def strX : ByteArray := ⟨#[98, 55, 48, 101, 48, 99, 98, 100, 54, 98, 98, 52, 98, 102, 55, 102, 51, 50, 49, 51, 57, 48, 98, 57, 52, 97, 48, 51, 99, 49, 100, 51, 53, 54, 99, 50, 49, 49, 50, 50, 51, 52, 51, 50, 56, 48, 100, 54, 49, 49, 53, 99, 49, 100, 50, 49]⟩
def numX : Nat := 19277929113566293071110308034699488026831934219452440156649784352033
def strY : ByteArray := ⟨#[98, 100, 51, 55, 54, 51, 56, 56, 98, 53, 102, 55, 50, 51, 102, 98, 52, 99, 50, 50, 100, 102, 101, 54, 99, 100, 52, 51, 55, 53, 97, 48, 53, 97, 48, 55, 52, 55, 54, 52, 52, 52, 100, 53, 56, 49, 57, 57, 56, 53, 48, 48, 55, 101, 51, 52]⟩
def numY : Nat := 19926808758034470970197974370888749184205991990603949537637343198772

def litRow (N : Nat) : List A0 := (List.range 7).map fun k => .lit (.int .i64 (D N k : Int))
def st60 (b : ByteArray) : St := startSt [curveAV 0, .one (.lit (.string b))] [(0, foldCells)] 0 1
def b60 (N : Nat) : BriefR := ⟨.ret, 0, [], [], [.one (.slc 2 0 7 7)], [some (litRow N)]⟩
theorem tab60_ok : (tabI [] []).Ok Try.prog := tabI_ok noPrims_ok xnil_ok
noncomputable def ok60 (b : ByteArray) (N : Nat) : Bool := briefRSame (briefR (tabI [] []) Try.f60 [2] (runF (tabI [] []) (fixD 50 1 [] [] []) 3000 Try.f60 (st60 b))) (b60 N)
theorem run60B : ok60 strB numB = true := by kernel_rfl
theorem numB_lt : numB < pq := by decide +kernel
theorem run60O : ok60 strO numO = true := by kernel_rfl
theorem numO_lt : numO < pq := by decide +kernel
theorem run60X : ok60 strX numX = true := by kernel_rfl
theorem numX_lt : numX < pq := by decide +kernel
theorem run60Y : ok60 strY numY = true := by kernel_rfl
theorem numY_lt : numY < pq := by decide +kernel

theorem meets60 {b : ByteArray} {N : Nat} (hok : ok60 b N = true) (hN : N < pq) (w : World) (bf of : Nat) (hfo : FoldsAt w bf of) : Meets Try.prog 60 #[curveV bf of, .string b] w (NewEl w 7 N) := by
  refine meets_of_calls Try.func60 (by kernel_rfl) (by kernel_rfl) ?_
  have hb := briefRSame_eq hok
  let β : Places := fun _ => (bf, of)
  refine calls_briefR (F := fixD 50 1 [] [] []) tab60_ok hb Try.func60 Try.ntmps60 rfl rfl (Nat.le_refl _) rfl (show 2 ≤ 50 by decide) (show 2 < 4095 by decide) (fun _ => 0) β
    (vals := [curveV bf of, .string b]) (fun s hs => ⟨curve_rep rfl (show 0 < 1 by decide), rfl, trivial⟩) (fun s hs => ⟨show 0 < 1 by decide, fold_row rfl hfo, trivial⟩) (fun r l hl hr => by cases hr) (fun r _ => hfo.lt) (fun r q _ _ h => by cases h) (fun _ _ _ i b h => by cases h) ?_
  intro s hs hH st' β' a' w' v hv hm hag hr hbe
  have hl : lookup 2 st'.mem = some (litRow N) := by
    have : [lookup 2 st'.mem] = [some (litRow N)] := hm
    simpa using this
  obtain ⟨hrn, hc⟩ := hr.mem 2 _ hl
  obtain ⟨f1, f2, f3⟩ := hr.fresh 2 (show 1 ≤ 2 by decide) hrn
  have hv' : v = .slice (some (at_ β' 2 0)) 7 7 := hv.1
  have hget : ∀ k, k < 7 → (litRow N)[k]? = some (.lit (.int .i64 (D N k : Int))) := fun k hk => by
    rw [litRow, List.getElem?_map, List.getElem?_range hk]
    rfl
  refine ⟨v, rfl, (β' 2).1, f1, f2, ?_, ⟨fun k hk => ?_, Nat.lt_trans hN pq_lt224⟩, fun k hk => ?_, hbe⟩
  · rw [hv', at_, f3]
  · obtain ⟨u, u1, u2⟩ := hc k _ (hget k hk)
    have u2' : u = .int .i64 (D N k : Int) := u2
    rw [u2', at_, f3] at u1
    exact u1
  · have := hr.frz 2 _ hl (.inl (show 1 ≤ 2 by decide)) k (by simp [litRow]; exact hk)
    rw [at_, f3, Nat.zero_add] at this
    exact this

/-- The numbers by their figures. -/
def hexOf (b : ByteArray) : Option Nat := bif decide (b = strB) then some numB else bif decide (b = strO) then some numO else bif decide (b = strX) then some numX else bif decide (b = strY) then some numY else none
theorem hexOf_ok {b : ByteArray} {N : Nat} (h : hexOf b = some N) : ok60 b N = true ∧ N < pq := by
  unfold hexOf at h
  cases h1 : decide (b = strB) with
  | true => rw [h1, cond_true] at h; cases h; rw [of_decide_eq_true h1]; exact ⟨run60B, numB_lt⟩
  | false =>
    rw [h1, cond_false] at h
    cases h2 : decide (b = strO) with
    | true => rw [h2, cond_true] at h; cases h; rw [of_decide_eq_true h2]; exact ⟨run60O, numO_lt⟩
    | false =>
      rw [h2, cond_false] at h
      cases h3 : decide (b = strX) with
      | true => rw [h3, cond_true] at h; cases h; rw [of_decide_eq_true h3]; exact ⟨run60X, numX_lt⟩
      | false =>
        rw [h3, cond_false] at h
        cases h4 : decide (b = strY) with
        | true => rw [h4, cond_true] at h; cases h; rw [of_decide_eq_true h4]; exact ⟨run60Y, numY_lt⟩
        | false => rw [h4, cond_false] at h; cases h
end P224
