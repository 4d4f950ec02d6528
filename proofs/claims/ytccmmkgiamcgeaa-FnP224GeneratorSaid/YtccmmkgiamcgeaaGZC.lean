/- The rest of a byte by 4; the tables of the laws on the generator. -/
import Derived.Test.YtccmmkgiamcgeaaGZA
import Derived.Test.YtccmmkgiamcgeaaGV13
set_option linter.all false
namespace P224
open Go Go.RowKit Go.Proofs
set_option maxRecDepth 100000
set_option linter.unusedVariables false

def qRem4 : Qx := fun F _ st op => match op with
  | .binOp .rem t x (.const (.int .u8 4)) _ => match st.ev x with
    | .one (.num .u8 i) => some (.one (.num .u8 st.nx), [.op 28 [.v i, .c 4]])
    | _ => none
  | _ => none
theorem rem4_run {P : Program} (t : TypeId) (n : Nat) (w : World) : (binOp .rem t (.int .u8 (n : Int)) (.int .u8 4)).run P w = .ok (.int .u8 ((n % 4 : Nat) : Int)) w := by
  have h1 := litBin_run (P := P) (op := .rem) (k := .u8) (a := (n : Int)) (b := 4) (v := .int .u8 ((n : Int).tmod 4)) rfl t w
  have h2 : (n : Int).tmod 4 = ((n % 4 : Nat) : Int) := by
    rw [Int.tmod_eq_emod_of_nonneg (by omega)]
    omega
  rw [h1, h2]
theorem qRem4_ok {P : Program} : QextOk P qRem4 := by
  intro s β F L st a o av l m hd h ht hH w0 hw0
  unfold qRem4 at h
  split at h
  · rename_i t x t' ho
    split at h
    · rename_i i hx
      cases h
      have hr := ev_rep ht x
      rw [hx] at hr
      obtain ⟨hv, _⟩ := hr
      have e : s st.nx = s i % 4 := hH.1
      refine ⟨.int .u8 ((s i % 4 : Nat) : Int), ⟨by rw [e], by rw [e]; exact Nat.lt_trans (Nat.mod_lt _ (by decide)) (by decide)⟩, fun w _ => ?_⟩
      have hc : a.eval (.const (.int .u8 4)) = .int .u8 4 := rfl
      simp only [execOp, ho, hv, hc, Sem.run_bind, guard_int, Result.andThen, rem4_run, Sem.run_pure]
    · cases h
  · cases h
def tabG (xs : List (Nat × X)) : Tab := { tabX true pointPrims xs with qext := Qx.or qRem4 (tabX true pointPrims xs).qext }
theorem tabG_ok {xs : List (Nat × X)} (hx : ∀ f g, (f, g) ∈ xs → XOk Try.prog f g) : (tabG xs).Ok Try.prog :=
  let h := tabX_ok pointPrims_ok hx
  { mixed := h.mixed, arr := h.arr, fld := h.fld, var := h.var, zero := h.zero, bld := h.bld, slc := h.slc, mks := h.mks, kind := h.kind, elem := h.elem, prim := h.prim, lext := h.lext
    qext := QextOk.or qRem4_ok h.qext }
noncomputable def xg0 : List (Nat × X) := with1 ((24, x24) :: (45, x45) :: xm1) pointPrims 2000 76 Try.f76
theorem xg0_ok : XsOk xg0 := with1_ok pointPrims_ok (xcons_ok x24_ok (xcons_ok x45_ok xm1_ok)) Try.func76 (by kernel_rfl)
noncomputable def xg1 : List (Nat × X) := with1 xg0 pointPrims 2000 48 Try.f48
theorem xg1_ok : XsOk xg1 := with1_ok pointPrims_ok xg0_ok Try.func48 (by kernel_rfl)

/-! ### what a law's text takes -/
def fixG (nt n : Nat) (d : List (Nat × Bool)) (np : List (Nat × (Nat × Nat))) : Fix := { nt := nt, nold := n, wr := fun _ => false, sep := fun _ _ => false, dec := fun i => findT i d, np := fun r => findT r np }
theorem map_bs28G (s : Nums) (i : Nat) : (bs28 i).map (Wd.val s) = (List.range 28).map fun k => by8 (27 - k) (s i) := by
  rw [bs28, List.map_map]
  rfl
theorem same_ptG {s : Nums} {i j k l n : Nat} (h : s n = opVal 19 (((Wd.c 4 :: (bs28 i ++ bs28 j)) ++ (Wd.c 4 :: (bs28 k ++ bs28 l))).map (Wd.val s))) (h1 : s i = s k) (h2 : s j = s l) : s n = 1 := by
  rw [List.map_append] at h
  rw [h, opVal_19 _ _ (by simp [bs28])]
  rw [if_pos]
  simp only [List.map_cons, List.map_append, map_bs28G, h1, h2]
theorem on_onG {x y : Nat} (h : OnC bb (ptN x y)) : onN x y = 1 := by
  unfold onN
  exact if_pos h
theorem on_ofG {p : Pt pp} (h : OnC bb p) (hn : farOf p = 0) : onN (xOf p) (yOf p) = 1 := by
  have he : p = ptN (xOf p) (yOf p) := on_eq fun e => by rw [e] at hn; cases hn
  exact on_onG (he ▸ h)
theorem mul_casesG {x y : Nat} (hon : onN x y = 1) (k : Nat) : (farOf (mulN x y k) = 1 ∧ mulN x y k = .far) ∨
    ∃ X Y, farOf (mulN x y k) = 0 ∧ xOf (mulN x y k) = X ∧ yOf (mulN x y k) = Y ∧ X < pq ∧ Y < pq ∧ onN X Y = 1 ∧ mulN x y k = ptN X Y := by
  rcases farOf_cases (mulN x y k) with h | ⟨h1, h2⟩
  · exact .inl h
  · exact .inr ⟨_, _, h1, rfl, rfl, xOf_lt _, yOf_lt _, on_ofG (nsmul_on fine (onN_on hon) k) h1, h2⟩
theorem is_farG {p : Pt pp} (h : p = .far) : farOf p = 1 := by rw [h]; rfl
theorem is_ptG {p : Pt pp} {X Y : Nat} (h : p = ptN X Y) (hX : X < pq) (hY : Y < pq) : farOf p = 0 ∧ xOf p = X ∧ yOf p = Y := by
  rw [h]
  exact ⟨rfl, Nat.mod_eq_of_lt (lt_pp hX), Nat.mod_eq_of_lt (lt_pp hY)⟩
end P224
/- The base point's numbers, and multiples of it beyond the order. -/
namespace P224
open Go Go.RowKit Go.Proofs
set_option maxRecDepth 100000
set_option linter.unusedVariables false

def gxB : List Nat := [183, 14, 12, 189, 107, 180, 191, 127, 50, 19, 144, 185, 74, 3, 193, 211, 86, 194, 17, 34, 52, 50, 128, 214, 17, 92, 29, 33]
def gyB : List Nat := [189, 55, 99, 136, 181, 247, 35, 251, 76, 34, 223, 230, 205, 67, 117, 160, 90, 7, 71, 100, 68, 213, 129, 153, 133, 0, 126, 52]
theorem gxB_val : ofBytes gxB = gxN := by decide +kernel
theorem gyB_val : ofBytes gyB = gyN := by decide +kernel
theorem gx_lt : gxN < pq := by decide +kernel
theorem gy_lt : gyN < pq := by decide +kernel
theorem gx_mod : gxN % pq = gxN := Nat.mod_eq_of_lt gx_lt
theorem gy_mod : gyN % pq = gyN := Nat.mod_eq_of_lt gy_lt
theorem gx_mul1 : gxN * 1 % pq = gxN := by rw [Nat.mul_one, gx_mod]
theorem gy_mul1 : gyN * 1 % pq = gyN := by rw [Nat.mul_one, gy_mod]
theorem finv1 : finvq 1 = 1 := by rw [finvq_def, Nat.one_pow, mod_one_pq]
theorem gg_onN : onN gxN gyN = 1 := on_onG gg_on
theorem nn_lt_pq : nn < pq := by decide +kernel
theorem nn_modp : nn % pq = nn := Nat.mod_eq_of_lt nn_lt_pq
theorem lt4 {R : Nat} (h : R < 4) : R = 0 ∨ R = 1 ∨ R = 2 ∨ R = 3 := by omega
theorem nn_plus {R : Nat} (h : R < 4) : (by8 0 nn + R) % 2 ^ 8 = 61 + R := by
  rcases lt4 h with rfl | rfl | rfl | rfl <;> decide +kernel
theorem nn_plus2 {R : Nat} (h : R < 4) : ofBytes (((List.range 27).map fun k => by8 (27 - k) nn) ++ [61 + R]) = nn + R := by
  rcases lt4 h with rfl | rfl | rfl | rfl <;> decide +kernel
theorem one_byte (R : Nat) : ofBytes [R] = R := by
  show R * 256 ^ 0 + 0 = R
  omega
theorem beyond (R : Nat) : mulN gxN gyN (nn + R) = mulN gxN gyN R := by
  have h := nsmul_add fine gg_on nn R
  rw [order_g, far_padd] at h
  exact h
end P224
