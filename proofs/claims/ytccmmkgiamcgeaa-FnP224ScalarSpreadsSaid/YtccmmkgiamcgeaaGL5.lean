/- Law Double at a point with coordinates. -/
import Derived.Test.YtccmmkgiamcgeaaGP5
set_option linter.all false
namespace P224
open Go Go.RowKit Go.Proofs
set_option maxRecDepth 100000
set_option linter.unusedVariables false

def ex5 : List Ex := [
.op 19 ((.c 4 :: (bs28 31 ++ bs28 33)) ++ (.c 4 :: (bs28 18 ++ bs28 20))),
.op 19 ((.c 4 :: (bs28 18 ++ bs28 20)) ++ (.c 4 :: (bs28 47 ++ bs28 50))),
.op 4 [(.v 50), (.c pq)],
.op 4 [(.v 47), (.c pq)],
.op 14 [(.v 49), (.v 1)],
.fmul (.v 44) (.v 48),
.op 14 [(.v 0), (.v 47)],
.op 14 [(.v 46), (.v 0)],
.op 14 [(.v 45), (.v 0)],
.fmul (.v 44) (.v 44),
.fmul (.v 41) (.v 43),
.finv (.v 42),
.fadd (.v 1) (.v 1),
.op 14 [(.v 40), (.c 3)],
.fmul (.c 3) (.v 39),
.fmul (.v 0) (.v 0),
.feq (.v 1) (.c 0),
.feq (.v 36) (.c 0),
.feq (.v 1) (.v 1),
.feq (.v 34) (.c 0),
.feq (.v 0) (.v 0),
.fmul (.v 24) (.v 29),
.fcst 0,
.fmul (.v 23) (.v 29),
.fcst 0,
.finv (.v 25),
.fcst 0,
.feq (.v 26) (.c 1),
.feq (.v 25) (.c 0),
.op 18 [(.v 1), (.v 22)],
.op 16 [(.v 0), (.v 1), (.v 22), (.v 0), (.v 1), (.v 22)],
.op 15 [(.v 0), (.v 1), (.v 22), (.v 0), (.v 1), (.v 22)],
.fcst 1,
.op 20 [(.v 0), (.v 1)],
.fmul (.v 11) (.v 16),
.fcst 0,
.fmul (.v 10) (.v 16),
.fcst 0,
.finv (.v 12),
.fcst 0,
.feq (.v 13) (.c 1),
.feq (.v 12) (.c 0),
.op 18 [(.v 1), (.v 5)],
.op 16 [(.v 0), (.v 1), (.v 5), (.v 0), (.v 1), (.v 5)],
.op 15 [(.v 0), (.v 1), (.v 5), (.v 0), (.v 1), (.v 5)],
.fcst 0,
.fcst 1,
.fcst 0,
.fcst 0,
.fcst 1,
.op 20 [(.v 0), (.v 1)],
.feq (.v 2) (.c 0),
.op 20 [(.v 0), (.v 1)]]
def dec5 : List (Nat × Bool) := [(2, true), (3, false), (4, true), (14, false), (21, true), (27, false), (34, true), (35, false), (36, true), (37, false), (38, false), (51, true), (52, true), (53, true)]
def fix5 : Fix := fixD 51 1 [] [] dec5
def st5 : St := startSt [.one (.sl 0 0 57)] [(0, ptRow 0 1)] 2 1
def br5 : BriefR := ⟨.ret, 55, ex5, [], [.one (.bl 54)], []⟩
theorem run5 : briefR (tabX true pointPrims xm4) Try.f5 [] (runF (tabX true pointPrims xm4) fix5 3000 Try.f5 st5) = some br5 := by kernel_rfl
end P224
/- Law Double at a point with coordinates: what its numbers are. -/
namespace P224
open Go Go.RowKit Go.Proofs
set_option maxRecDepth 100000
set_option linter.unusedVariables false

theorem map_bs28 (s : Nums) (i : Nat) : (bs28 i).map (Wd.val s) = (List.range 28).map fun k => by8 (27 - k) (s i) := by
  rw [bs28, List.map_map]
  rfl
/-- The bytes of two points are the same. -/
theorem same_pts {s : Nums} {i j k l n : Nat} (h : s n = opVal 19 (((Wd.c 4 :: (bs28 i ++ bs28 j)) ++ (Wd.c 4 :: (bs28 k ++ bs28 l))).map (Wd.val s))) (h1 : s i = s k) (h2 : s j = s l) : s n = 1 := by
  rw [List.map_append] at h
  rw [h, opVal_19 _ _ (by simp [bs28])]
  rw [if_pos]
  simp only [List.map_cons, List.map_append, map_bs28, h1, h2]

theorem law5 {s : Nums} {x y : Nat} (h0 : s 0 = x) (h1 : s 1 = y) (hx : x < pq) (hy : y < pq) (hon : onN x y = 1) (h : Holds s 55 ex5) :
    s 2 = 1 ∧ s 3 = 0 ∧ s 4 = 1 ∧ s 14 = 0 ∧ s 21 = 1 ∧ s 27 = 0 ∧ s 34 = 1 ∧ s 35 = 0 ∧ s 36 = 1 ∧ s 37 = 0 ∧ s 38 = 0 ∧ s 51 = 1 ∧ s 52 = 1 ∧ s 53 = 1 ∧ s 54 = 1 := by
  obtain ⟨h54, h53, h52, h51, h50, h49, h48, h47, h46, h45, h44, h43, h42, h41, h40, h39, h38, h37, h36, h35, h34, h33, h32, h31, h30, h29, h28, h27, h26, h25, h24, h23, h22, h21, h20, h19, h18, h17, h16, h15, h14, h13, h12, h11, h10, h9, h8, h7, h6, h5, h4, h3, h2, _⟩ := h
  have hc := onN_on hon
  have hy0 : y ≠ 0 := fun e => fine.y_ne hc (by rw [e]; rfl)
  have e2 : s 2 = onN (s 0) (s 1) := h2
  have e3 : s 3 = if s 2 = 0 then 1 else 0 := h3
  have e4 : s 4 = onN (s 0) (s 1) := h4
  have e5 : s 5 = 1 % pq := h5
  have e21 : s 21 = onN (s 0) (s 1) := h21
  have e22 : s 22 = 1 % pq := h22
  rw [h0, h1, hon] at e2 e4 e21
  rw [mod_one_pq] at e5 e22
  rw [e2] at e3
  have t5 : s 10 = sxN pq bq (s 0) (s 1) (s 5) (s 0) (s 1) (s 5) ∧ s 11 = syN pq bq (s 0) (s 1) (s 5) (s 0) (s 1) (s 5) ∧ s 12 = 8 * (s 1 * s 1 * s 1) * s 5 % pq := ⟨h10, h11, h12⟩
  have t22 : s 23 = sxN pq bq (s 0) (s 1) (s 22) (s 0) (s 1) (s 22) ∧ s 24 = syN pq bq (s 0) (s 1) (s 22) (s 0) (s 1) (s 22) ∧ s 25 = 8 * (s 1 * s 1 * s 1) * s 22 % pq := ⟨h23, h24, h25⟩
  rw [h0, h1, e5] at t5
  rw [h0, h1, e22] at t22
  have hrep : Rep (toTri pp (x, y, 1)) (ptN x y) := rep_one fine x y
  have d5 := dbl_aff hc hrep t5.1 t5.2.1 t5.2.2
  have d22 := dbl_aff hc hrep t22.1 t22.2.1 t22.2.2
  -- the reference's slope
  have e39 : s 39 = s 0 * s 0 % pq := h39
  have e40 : s 40 = 3 * s 39 % pq := h40
  have e41 : s 41 = (((s 40 : Int) - (3 : Nat)) % (pq : Int)).toNat := h41
  have e42 : s 42 = (s 1 + s 1) % pq := h42
  have e43 : s 43 = finvq (s 42) := h43
  have e44 : s 44 = s 41 * s 43 % pq := h44
  have e45 : s 45 = s 44 * s 44 % pq := h45
  have e46 : s 46 = (((s 45 : Int) - s 0) % (pq : Int)).toNat := h46
  have e47 : s 47 = (((s 46 : Int) - s 0) % (pq : Int)).toNat := h47
  have e48 : s 48 = (((s 0 : Int) - s 47) % (pq : Int)).toNat := h48
  have e49 : s 49 = s 44 * s 48 % pq := h49
  have e50 : s 50 = (((s 49 : Int) - s 1) % (pq : Int)).toNat := h50
  rw [h0] at e39 e46 e47 e48
  rw [h1] at e42 e50
  have m14 : ∀ u v : Nat, (((u : Int) - v) % (pq : Int)).toNat < pq := fun u v => by
    have hp : (0 : Int) < (pq : Int) := by exact_mod_cast pq_pos
    have a1 := Int.emod_nonneg ((u : Int) - v) (Int.ne_of_gt hp)
    have a2 := Int.emod_lt_of_pos ((u : Int) - v) hp
    omega
  have l47 : s 47 < pq := by rw [e47]; exact m14 _ _
  have l50 : s 50 < pq := by rw [e50]; exact m14 _ _
  have f39 : fi pp (s 39) = fi pp x * fi pp x := by rw [e39, pq_is, fi_mod, fi_mul]
  have f40 : fi pp (s 40) = 3 * (fi pp x * fi pp x) := by rw [e40, pq_is, fi_mod, fi_mul, f39]; rfl
  have f41 : fi pp (s 41) = 3 * (fi pp x * fi pp x) - 3 := by rw [e41, fi_int, f40]; rfl
  have f42 : fi pp (s 42) = fi pp y + fi pp y := by rw [e42, pq_is, fi_mod, fi_add]
  have f44 : fi pp (s 44) = (3 * (fi pp x * fi pp x) - 3) * finv (fi pp y + fi pp y) := by rw [e44, pq_is, fi_mod, fi_mul, f41, e43, fi_finvq, f42]
  have f47 : fi pp (s 47) = fi pp (s 44) * fi pp (s 44) - fi pp x - fi pp x := by rw [e47, fi_int, e46, fi_int, e45, pq_is, fi_mod, fi_mul]
  have f50 : fi pp (s 50) = fi pp (s 44) * (fi pp x - fi pp (s 47)) - fi pp y := by rw [e50, fi_int, e49, pq_is, fi_mod, fi_mul, e48, fi_int]
  obtain ⟨q1, q2, q3⟩ := tangent_aff hy hy0 f44 f47 f50 l47 l50
  have hadd : padd (ptN x y) (ptN x y) = addN x y x y := rfl
  rw [hadd] at d5 d22
  rcases d5 with ⟨d, _⟩ | ⟨_, _, z5, x5, y5⟩
  · rw [q1] at d; cases d
  rcases d22 with ⟨d, _⟩ | ⟨_, _, z22, x22, y22⟩
  · rw [q1] at d; cases d
  have e13 : s 13 = if s 12 = 0 then 1 else 0 := h13
  have e14 : s 14 = if s 13 = 1 then 1 else 0 := h14
  have e26 : s 26 = if s 25 = 0 then 1 else 0 := h26
  have e27 : s 27 = if s 26 = 1 then 1 else 0 := h27
  rw [if_neg z5] at e13
  rw [e13] at e14
  rw [if_neg z22] at e26
  rw [e26] at e27
  have e16 : s 16 = finvq (s 12) := h16
  have e18 : s 18 = s 10 * s 16 % pq := h18
  have e20 : s 20 = s 11 * s 16 % pq := h20
  have e29 : s 29 = finvq (s 25) := h29
  have e31 : s 31 = s 23 * s 29 % pq := h31
  have e33 : s 33 = s 24 * s 29 % pq := h33
  rw [e16] at e18 e20
  rw [e29] at e31 e33
  have g18 : s 18 = s 47 := e18.trans (x5.trans q2.symm)
  have g20 : s 20 = s 50 := e20.trans (y5.trans q3.symm)
  have g31 : s 31 = s 18 := (e31.trans (x22.trans q2.symm)).trans g18.symm
  have g33 : s 33 = s 20 := (e33.trans (y22.trans q3.symm)).trans g20.symm
  have e34 : s 34 = if s 0 = s 0 then 1 else 0 := h34
  have e35 : s 35 = if s 34 = 0 then 1 else 0 := h35
  have e36 : s 36 = if s 1 = s 1 then 1 else 0 := h36
  have e37 : s 37 = if s 36 = 0 then 1 else 0 := h37
  have e38 : s 38 = if s 1 = 0 then 1 else 0 := h38
  rw [if_pos rfl] at e34 e36
  rw [e34] at e35
  rw [e36] at e37
  rw [h1, if_neg hy0] at e38
  have e51 : s 51 = if s 47 < pq then 1 else 0 := h51
  have e52 : s 52 = if s 50 < pq then 1 else 0 := h52
  rw [if_pos l47] at e51
  rw [if_pos l50] at e52
  exact ⟨e2, e3, e4, e14, e21, e27, e34, e35, e36, e37, e38, e51, e52, same_pts h53 g18 g20, same_pts h54 g31 g33⟩
end P224
