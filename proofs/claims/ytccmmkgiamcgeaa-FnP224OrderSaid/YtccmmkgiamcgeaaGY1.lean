/- More operations: the difference of two bytes. -/
import Derived.Test.YtccmmkgiamcgeaaGV13
import Derived.Test.YtccmmkgiamcgeaaGQ9
set_option linter.all false
namespace P224
open Go Go.RowKit Go.Proofs
set_option maxRecDepth 100000
set_option linter.unusedVariables false

def qSub8 : Qx := fun F _ st op => match op with
  | .binOp .sub t x y _ => match st.ev x, st.ev y with
    | .one a, .one b => match a.word .u8, b.word .u8 with
      | some p, some q => some (.one (.num .u8 st.nx), [.sub 8 p q])
      | _, _ => none
    | _, _ => none
  | _ => none
theorem sub8_run {P : Program} (t : TypeId) (n m : Nat) (hm : m < 256) (w : World) : (binOp .sub t (.int .u8 (n : Int)) (.int .u8 (m : Int))).run P w = .ok (.int .u8 (((n + (2 ^ 8 - m)) % 2 ^ 8 : Nat) : Int)) w := by
  have h1 := litBin_run (P := P) (op := .sub) (k := .u8) (a := (n : Int)) (b := (m : Int)) (v := .int .u8 (IntKind.wrap .u8 ((n : Int) - m))) rfl t w
  have h2 : IntKind.wrap .u8 ((n : Int) - m) = (((n + (2 ^ 8 - m)) % 2 ^ 8 : Nat) : Int) := by
    have e : IntKind.wrap .u8 ((n : Int) - m) = ((n : Int) - m) % 256 := by
      simp [IntKind.wrap, IntKind.bits, IntKind.signed]
    rw [e]
    omega
  rw [h1, h2]
theorem qSub8_ok {P : Program} : QextOk P qSub8 := by
  intro s β F L st a o av l m hd h ht hH w0 hw0
  unfold qSub8 at h
  split at h
  · rename_i t x y t' ho
    split at h
    · rename_i p q hx hy
      split at h
      · rename_i p' q' hp hq
        cases h
        have hrx := ev_rep ht x
        rw [hx] at hrx
        have hry := ev_rep ht y
        rw [hy] at hry
        obtain ⟨hv, _⟩ := word_rep hp hrx
        obtain ⟨hv', hlt⟩ := word_rep hq hry
        have hlt : q'.val s < 256 := hlt
        have e : s st.nx = (p'.val s + (2 ^ 8 - q'.val s)) % 2 ^ 8 := hH.1
        refine ⟨.int .u8 (((p'.val s + (2 ^ 8 - q'.val s)) % 2 ^ 8 : Nat) : Int), ⟨by rw [e], by rw [e]; exact Nat.mod_lt _ (by decide)⟩, fun w _ => ?_⟩
        simp only [execOp, ho, hv, hv', Sem.run_bind, guard_int, Result.andThen, sub8_run t _ _ hlt, Sem.run_pure]
      · cases h
    · cases h
  · cases h
def tabU (xs : List (Nat × X)) : Tab := { tabZ xs with qext := Qx.or qSub8 (tabZ xs).qext }
theorem tabU_ok {xs : List (Nat × X)} (hx : ∀ f g, (f, g) ∈ xs → XOk Try.prog f g) : (tabU xs).Ok Try.prog :=
  let h := tabZ_ok hx
  { mixed := h.mixed, arr := h.arr, fld := h.fld, var := h.var, zero := h.zero, bld := h.bld, slc := h.slc, mks := h.mks, kind := h.kind, elem := h.elem, prim := h.prim, lext := h.lext
    qext := QextOk.or qSub8_ok h.qext }
end P224
/- The order of a point, once less. -/
namespace P224
open Go Go.RowKit Go.Proofs
set_option maxRecDepth 100000
set_option linter.unusedVariables false

def negM (y : Nat) : Nat := ((((0 : Nat) : Int) - (y : Int)) % (pq : Int)).toNat
theorem negM_lt (y : Nat) : negM y < pq := m14 0 y
theorem ptN_negM (x y : Nat) : ptN x (negM y) = pneg (ptN x y) := by
  have h : fi pp (negM y) = 0 - fi pp y := by
    unfold negM
    rw [fi_int]
    rfl
  unfold ptN pneg
  rw [h]
theorem nn_back : nn - 1 + 1 = nn := by decide +kernel
theorem order_less {x y : Nat} (hon : onN x y = 1) : mulN x y (nn - 1) = ptN x (negM y) := by
  have hp := onN_on hon
  have h := nsmul_add fine hp (nn - 1) 1
  rw [nsmul_one, nn_back, order_p hp] at h
  rw [ptN_negM]
  exact eq_neg_of_padd fine hp (nsmul_on fine hp _) ((padd_comm fine hp (nsmul_on fine hp _)).trans h.symm)
theorem nn_pq : nn < pq := by decide +kernel
theorem nn_mod : nn % pq = nn := Nat.mod_eq_of_lt nn_pq
theorem nn_bytes : ofBytes ((List.range 28).map fun k => by8 (27 - k) nn) = nn := by decide +kernel
theorem nn_last : (by8 0 nn + (2 ^ 8 - 1)) % 2 ^ 8 = 60 := by decide +kernel
theorem nn_less : ofBytes (((List.range 27).map fun k => by8 (27 - k) nn) ++ [60]) = nn - 1 := by decide +kernel
end P224
