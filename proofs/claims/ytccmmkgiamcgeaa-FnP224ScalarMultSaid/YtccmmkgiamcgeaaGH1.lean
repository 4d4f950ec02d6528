/- The sum and the double of a point by the package's formulas: what the executor lists are the polynomials. -/
import Derived.Test.YtccmmkgiamcgeaaGE7
set_option linter.all false
namespace P224
open Go
set_option maxRecDepth 100000
set_option linter.unusedVariables false

theorem pq_pp : pq = pp := rfl
theorem fpos : 0 < pp := by decide +kernel
def ex74 : List Ex := [
.fadd (.v 56) (.v 57),
.fmul (.v 18) (.v 49),
.fmul (.v 24) (.v 37),
.fsub (.v 54) (.v 50),
.fmul (.v 18) (.v 38),
.fadd (.v 52) (.v 51),
.fmul (.v 38) (.v 37),
.fmul (.v 49) (.v 46),
.fmul (.v 24) (.v 46),
.fsub (.v 48) (.v 42),
.fadd (.v 47) (.v 7),
.fadd (.v 7) (.v 7),
.fadd (.v 45) (.v 44),
.fadd (.v 44) (.v 44),
.fsub (.v 43) (.v 7),
.fsub (.v 40) (.v 42),
.fadd (.v 41) (.v 11),
.fadd (.v 11) (.v 11),
.fmul (.v 39) (.v 30),
.fcst 18958286285566608000408668544493926415504680968679321075787234672564,
.fadd (.v 9) (.v 36),
.fsub (.v 9) (.v 36),
.fadd (.v 34) (.v 35),
.fadd (.v 34) (.v 34),
.fsub (.v 30) (.v 33),
.fmul (.v 32) (.v 11),
.fcst 18958286285566608000408668544493926415504680968679321075787234672564,
.fcst 0,
.fsub (.v 28) (.v 29),
.fadd (.v 7) (.v 11),
.fmul (.v 25) (.v 27),
.fadd (.v 3) (.v 5),
.fcst 0,
.fadd (.v 0) (.v 2),
.fsub (.v 22) (.v 23),
.fadd (.v 9) (.v 11),
.fmul (.v 19) (.v 21),
.fadd (.v 4) (.v 5),
.fcst 0,
.fadd (.v 1) (.v 2),
.fsub (.v 16) (.v 17),
.fadd (.v 7) (.v 9),
.fmul (.v 13) (.v 15),
.fadd (.v 3) (.v 4),
.fcst 0,
.fadd (.v 0) (.v 1),
.fcst 0,
.fmul (.v 2) (.v 5),
.fcst 0,
.fmul (.v 1) (.v 4),
.fcst 0,
.fmul (.v 0) (.v 3),
.fcst 0]
theorem alg74 {n : Nat} [NeZero n] (b x0 x1 x2 x3 x4 x5 : Fin n) {t7 t9 t11 t13 t15 t16 t17 t18 t19 t21 t22 t23 t24 t25 t27 t28 t29 t30 t32 t33 t34 t35 t36 t37 t38 t39 t40 t41 t42 t43 t44 t45 t46 t47 t48 t49 t50 t51 t52 t53 t54 t55 t56 t57 t58 : Fin n} (h7 : t7 = x0 * x3)
    (h9 : t9 = x1 * x4)
    (h11 : t11 = x2 * x5)
    (h13 : t13 = x0 + x1)
    (h15 : t15 = x3 + x4)
    (h16 : t16 = t13 * t15)
    (h17 : t17 = t7 + t9)
    (h18 : t18 = t16 - t17)
    (h19 : t19 = x1 + x2)
    (h21 : t21 = x4 + x5)
    (h22 : t22 = t19 * t21)
    (h23 : t23 = t9 + t11)
    (h24 : t24 = t22 - t23)
    (h25 : t25 = x0 + x2)
    (h27 : t27 = x3 + x5)
    (h28 : t28 = t25 * t27)
    (h29 : t29 = t7 + t11)
    (h30 : t30 = t28 - t29)
    (h32 : t32 = b)
    (h33 : t33 = t32 * t11)
    (h34 : t34 = t30 - t33)
    (h35 : t35 = t34 + t34)
    (h36 : t36 = t34 + t35)
    (h37 : t37 = t9 - t36)
    (h38 : t38 = t9 + t36)
    (h39 : t39 = b)
    (h40 : t40 = t39 * t30)
    (h41 : t41 = t11 + t11)
    (h42 : t42 = t41 + t11)
    (h43 : t43 = t40 - t42)
    (h44 : t44 = t43 - t7)
    (h45 : t45 = t44 + t44)
    (h46 : t46 = t45 + t44)
    (h47 : t47 = t7 + t7)
    (h48 : t48 = t47 + t7)
    (h49 : t49 = t48 - t42)
    (h50 : t50 = t24 * t46)
    (h51 : t51 = t49 * t46)
    (h52 : t52 = t38 * t37)
    (h53 : t53 = t52 + t51)
    (h54 : t54 = t18 * t38)
    (h55 : t55 = t54 - t50)
    (h56 : t56 = t24 * t37)
    (h57 : t57 = t18 * t49)
    (h58 : t58 = t56 + t57) :
    t55 = sx b x0 x1 x2 x3 x4 x5 ∧ t53 = sy b x0 x1 x2 x3 x4 x5 ∧ t58 = sz b x0 x1 x2 x3 x4 x5 := by
  subst h7 h9 h11 h13 h15 h16 h17 h18 h19 h21 h22 h23 h24 h25 h27 h28 h29 h30 h32 h33 h34 h35 h36 h37 h38 h39 h40 h41 h42 h43 h44 h45 h46 h47 h48 h49 h50 h51 h52 h53 h54 h55 h56 h57 h58
  unfold sx sy sz
  refine ⟨?_, ?_, ?_⟩ <;> grind
theorem law74 {s : Nums} (h : Holds s 59 ex74) (hi : ∀ i, i < 6 → s i < pq) :
    fi pp (s 55) = sx bb (fi pp (s 0)) (fi pp (s 1)) (fi pp (s 2)) (fi pp (s 3)) (fi pp (s 4)) (fi pp (s 5)) ∧ fi pp (s 53) = sy bb (fi pp (s 0)) (fi pp (s 1)) (fi pp (s 2)) (fi pp (s 3)) (fi pp (s 4)) (fi pp (s 5)) ∧ fi pp (s 58) = sz bb (fi pp (s 0)) (fi pp (s 1)) (fi pp (s 2)) (fi pp (s 3)) (fi pp (s 4)) (fi pp (s 5)) := by
  rw [pq_pp] at hi
  obtain ⟨e58, e57, e56, e55, e54, e53, e52, e51, e50, e49, e48, e47, e46, e45, e44, e43, e42, e41, e40, e39, e38, e37, e36, e35, e34, e33, e32, e31, e30, e29, e28, e27, e26, e25, e24, e23, e22, e21, e20, e19, e18, e17, e16, e15, e14, e13, e12, e11, e10, e9, e8, e7, e6, _⟩ := h
  have e6 : s 6 = 0 % pp := e6
  have e7 : s 7 = s 0 * s 3 % pp := e7
  have e8 : s 8 = 0 % pp := e8
  have e9 : s 9 = s 1 * s 4 % pp := e9
  have e10 : s 10 = 0 % pp := e10
  have e11 : s 11 = s 2 * s 5 % pp := e11
  have e12 : s 12 = 0 % pp := e12
  have e13 : s 13 = (s 0 + s 1) % pp := e13
  have e14 : s 14 = 0 % pp := e14
  have e15 : s 15 = (s 3 + s 4) % pp := e15
  have e16 : s 16 = s 13 * s 15 % pp := e16
  have e17 : s 17 = (s 7 + s 9) % pp := e17
  have e18 : s 18 = (s 16 + (pp - s 17)) % pp := e18
  have e19 : s 19 = (s 1 + s 2) % pp := e19
  have e20 : s 20 = 0 % pp := e20
  have e21 : s 21 = (s 4 + s 5) % pp := e21
  have e22 : s 22 = s 19 * s 21 % pp := e22
  have e23 : s 23 = (s 9 + s 11) % pp := e23
  have e24 : s 24 = (s 22 + (pp - s 23)) % pp := e24
  have e25 : s 25 = (s 0 + s 2) % pp := e25
  have e26 : s 26 = 0 % pp := e26
  have e27 : s 27 = (s 3 + s 5) % pp := e27
  have e28 : s 28 = s 25 * s 27 % pp := e28
  have e29 : s 29 = (s 7 + s 11) % pp := e29
  have e30 : s 30 = (s 28 + (pp - s 29)) % pp := e30
  have e31 : s 31 = 0 % pp := e31
  have e32 : s 32 = 18958286285566608000408668544493926415504680968679321075787234672564 % pp := e32
  have e33 : s 33 = s 32 * s 11 % pp := e33
  have e34 : s 34 = (s 30 + (pp - s 33)) % pp := e34
  have e35 : s 35 = (s 34 + s 34) % pp := e35
  have e36 : s 36 = (s 34 + s 35) % pp := e36
  have e37 : s 37 = (s 9 + (pp - s 36)) % pp := e37
  have e38 : s 38 = (s 9 + s 36) % pp := e38
  have e39 : s 39 = 18958286285566608000408668544493926415504680968679321075787234672564 % pp := e39
  have e40 : s 40 = s 39 * s 30 % pp := e40
  have e41 : s 41 = (s 11 + s 11) % pp := e41
  have e42 : s 42 = (s 41 + s 11) % pp := e42
  have e43 : s 43 = (s 40 + (pp - s 42)) % pp := e43
  have e44 : s 44 = (s 43 + (pp - s 7)) % pp := e44
  have e45 : s 45 = (s 44 + s 44) % pp := e45
  have e46 : s 46 = (s 45 + s 44) % pp := e46
  have e47 : s 47 = (s 7 + s 7) % pp := e47
  have e48 : s 48 = (s 47 + s 7) % pp := e48
  have e49 : s 49 = (s 48 + (pp - s 42)) % pp := e49
  have e50 : s 50 = s 24 * s 46 % pp := e50
  have e51 : s 51 = s 49 * s 46 % pp := e51
  have e52 : s 52 = s 38 * s 37 % pp := e52
  have e53 : s 53 = (s 52 + s 51) % pp := e53
  have e54 : s 54 = s 18 * s 38 % pp := e54
  have e55 : s 55 = (s 54 + (pp - s 50)) % pp := e55
  have e56 : s 56 = s 24 * s 37 % pp := e56
  have e57 : s 57 = s 18 * s 49 % pp := e57
  have e58 : s 58 = (s 56 + s 57) % pp := e58
  have l0 : s 0 ≤ pp := Nat.le_of_lt (hi 0 (by decide))
  have l1 : s 1 ≤ pp := Nat.le_of_lt (hi 1 (by decide))
  have l2 : s 2 ≤ pp := Nat.le_of_lt (hi 2 (by decide))
  have l3 : s 3 ≤ pp := Nat.le_of_lt (hi 3 (by decide))
  have l4 : s 4 ≤ pp := Nat.le_of_lt (hi 4 (by decide))
  have l5 : s 5 ≤ pp := Nat.le_of_lt (hi 5 (by decide))
  have l6 : s 6 ≤ pp := by rw [e6]; exact Nat.le_of_lt (Nat.mod_lt _ fpos)
  have l7 : s 7 ≤ pp := by rw [e7]; exact Nat.le_of_lt (Nat.mod_lt _ fpos)
  have l8 : s 8 ≤ pp := by rw [e8]; exact Nat.le_of_lt (Nat.mod_lt _ fpos)
  have l9 : s 9 ≤ pp := by rw [e9]; exact Nat.le_of_lt (Nat.mod_lt _ fpos)
  have l10 : s 10 ≤ pp := by rw [e10]; exact Nat.le_of_lt (Nat.mod_lt _ fpos)
  have l11 : s 11 ≤ pp := by rw [e11]; exact Nat.le_of_lt (Nat.mod_lt _ fpos)
  have l12 : s 12 ≤ pp := by rw [e12]; exact Nat.le_of_lt (Nat.mod_lt _ fpos)
  have l13 : s 13 ≤ pp := by rw [e13]; exact Nat.le_of_lt (Nat.mod_lt _ fpos)
  have l14 : s 14 ≤ pp := by rw [e14]; exact Nat.le_of_lt (Nat.mod_lt _ fpos)
  have l15 : s 15 ≤ pp := by rw [e15]; exact Nat.le_of_lt (Nat.mod_lt _ fpos)
  have l16 : s 16 ≤ pp := by rw [e16]; exact Nat.le_of_lt (Nat.mod_lt _ fpos)
  have l17 : s 17 ≤ pp := by rw [e17]; exact Nat.le_of_lt (Nat.mod_lt _ fpos)
  have l18 : s 18 ≤ pp := by rw [e18]; exact Nat.le_of_lt (Nat.mod_lt _ fpos)
  have l19 : s 19 ≤ pp := by rw [e19]; exact Nat.le_of_lt (Nat.mod_lt _ fpos)
  have l20 : s 20 ≤ pp := by rw [e20]; exact Nat.le_of_lt (Nat.mod_lt _ fpos)
  have l21 : s 21 ≤ pp := by rw [e21]; exact Nat.le_of_lt (Nat.mod_lt _ fpos)
  have l22 : s 22 ≤ pp := by rw [e22]; exact Nat.le_of_lt (Nat.mod_lt _ fpos)
  have l23 : s 23 ≤ pp := by rw [e23]; exact Nat.le_of_lt (Nat.mod_lt _ fpos)
  have l24 : s 24 ≤ pp := by rw [e24]; exact Nat.le_of_lt (Nat.mod_lt _ fpos)
  have l25 : s 25 ≤ pp := by rw [e25]; exact Nat.le_of_lt (Nat.mod_lt _ fpos)
  have l26 : s 26 ≤ pp := by rw [e26]; exact Nat.le_of_lt (Nat.mod_lt _ fpos)
  have l27 : s 27 ≤ pp := by rw [e27]; exact Nat.le_of_lt (Nat.mod_lt _ fpos)
  have l28 : s 28 ≤ pp := by rw [e28]; exact Nat.le_of_lt (Nat.mod_lt _ fpos)
  have l29 : s 29 ≤ pp := by rw [e29]; exact Nat.le_of_lt (Nat.mod_lt _ fpos)
  have l30 : s 30 ≤ pp := by rw [e30]; exact Nat.le_of_lt (Nat.mod_lt _ fpos)
  have l31 : s 31 ≤ pp := by rw [e31]; exact Nat.le_of_lt (Nat.mod_lt _ fpos)
  have l32 : s 32 ≤ pp := by rw [e32]; exact Nat.le_of_lt (Nat.mod_lt _ fpos)
  have l33 : s 33 ≤ pp := by rw [e33]; exact Nat.le_of_lt (Nat.mod_lt _ fpos)
  have l34 : s 34 ≤ pp := by rw [e34]; exact Nat.le_of_lt (Nat.mod_lt _ fpos)
  have l35 : s 35 ≤ pp := by rw [e35]; exact Nat.le_of_lt (Nat.mod_lt _ fpos)
  have l36 : s 36 ≤ pp := by rw [e36]; exact Nat.le_of_lt (Nat.mod_lt _ fpos)
  have l37 : s 37 ≤ pp := by rw [e37]; exact Nat.le_of_lt (Nat.mod_lt _ fpos)
  have l38 : s 38 ≤ pp := by rw [e38]; exact Nat.le_of_lt (Nat.mod_lt _ fpos)
  have l39 : s 39 ≤ pp := by rw [e39]; exact Nat.le_of_lt (Nat.mod_lt _ fpos)
  have l40 : s 40 ≤ pp := by rw [e40]; exact Nat.le_of_lt (Nat.mod_lt _ fpos)
  have l41 : s 41 ≤ pp := by rw [e41]; exact Nat.le_of_lt (Nat.mod_lt _ fpos)
  have l42 : s 42 ≤ pp := by rw [e42]; exact Nat.le_of_lt (Nat.mod_lt _ fpos)
  have l43 : s 43 ≤ pp := by rw [e43]; exact Nat.le_of_lt (Nat.mod_lt _ fpos)
  have l44 : s 44 ≤ pp := by rw [e44]; exact Nat.le_of_lt (Nat.mod_lt _ fpos)
  have l45 : s 45 ≤ pp := by rw [e45]; exact Nat.le_of_lt (Nat.mod_lt _ fpos)
  have l46 : s 46 ≤ pp := by rw [e46]; exact Nat.le_of_lt (Nat.mod_lt _ fpos)
  have l47 : s 47 ≤ pp := by rw [e47]; exact Nat.le_of_lt (Nat.mod_lt _ fpos)
  have l48 : s 48 ≤ pp := by rw [e48]; exact Nat.le_of_lt (Nat.mod_lt _ fpos)
  have l49 : s 49 ≤ pp := by rw [e49]; exact Nat.le_of_lt (Nat.mod_lt _ fpos)
  have l50 : s 50 ≤ pp := by rw [e50]; exact Nat.le_of_lt (Nat.mod_lt _ fpos)
  have l51 : s 51 ≤ pp := by rw [e51]; exact Nat.le_of_lt (Nat.mod_lt _ fpos)
  have l52 : s 52 ≤ pp := by rw [e52]; exact Nat.le_of_lt (Nat.mod_lt _ fpos)
  have l53 : s 53 ≤ pp := by rw [e53]; exact Nat.le_of_lt (Nat.mod_lt _ fpos)
  have l54 : s 54 ≤ pp := by rw [e54]; exact Nat.le_of_lt (Nat.mod_lt _ fpos)
  have l55 : s 55 ≤ pp := by rw [e55]; exact Nat.le_of_lt (Nat.mod_lt _ fpos)
  have l56 : s 56 ≤ pp := by rw [e56]; exact Nat.le_of_lt (Nat.mod_lt _ fpos)
  have l57 : s 57 ≤ pp := by rw [e57]; exact Nat.le_of_lt (Nat.mod_lt _ fpos)
  have l58 : s 58 ≤ pp := by rw [e58]; exact Nat.le_of_lt (Nat.mod_lt _ fpos)
  have f7 := (congrArg (fi pp) e7).trans ((fi_mod _).trans (fi_mul _ _))
  have f9 := (congrArg (fi pp) e9).trans ((fi_mod _).trans (fi_mul _ _))
  have f11 := (congrArg (fi pp) e11).trans ((fi_mod _).trans (fi_mul _ _))
  have f13 := (congrArg (fi pp) e13).trans ((fi_mod _).trans (fi_add _ _))
  have f15 := (congrArg (fi pp) e15).trans ((fi_mod _).trans (fi_add _ _))
  have f16 := (congrArg (fi pp) e16).trans ((fi_mod _).trans (fi_mul _ _))
  have f17 := (congrArg (fi pp) e17).trans ((fi_mod _).trans (fi_add _ _))
  have f18 := (congrArg (fi pp) e18).trans ((fi_mod _).trans (fi_sub l17))
  have f19 := (congrArg (fi pp) e19).trans ((fi_mod _).trans (fi_add _ _))
  have f21 := (congrArg (fi pp) e21).trans ((fi_mod _).trans (fi_add _ _))
  have f22 := (congrArg (fi pp) e22).trans ((fi_mod _).trans (fi_mul _ _))
  have f23 := (congrArg (fi pp) e23).trans ((fi_mod _).trans (fi_add _ _))
  have f24 := (congrArg (fi pp) e24).trans ((fi_mod _).trans (fi_sub l23))
  have f25 := (congrArg (fi pp) e25).trans ((fi_mod _).trans (fi_add _ _))
  have f27 := (congrArg (fi pp) e27).trans ((fi_mod _).trans (fi_add _ _))
  have f28 := (congrArg (fi pp) e28).trans ((fi_mod _).trans (fi_mul _ _))
  have f29 := (congrArg (fi pp) e29).trans ((fi_mod _).trans (fi_add _ _))
  have f30 := (congrArg (fi pp) e30).trans ((fi_mod _).trans (fi_sub l29))
  have f32 : fi pp (s 32) = bb := by rw [e32, fi_mod]; rfl
  have f33 := (congrArg (fi pp) e33).trans ((fi_mod _).trans (fi_mul _ _))
  have f34 := (congrArg (fi pp) e34).trans ((fi_mod _).trans (fi_sub l33))
  have f35 := (congrArg (fi pp) e35).trans ((fi_mod _).trans (fi_add _ _))
  have f36 := (congrArg (fi pp) e36).trans ((fi_mod _).trans (fi_add _ _))
  have f37 := (congrArg (fi pp) e37).trans ((fi_mod _).trans (fi_sub l36))
  have f38 := (congrArg (fi pp) e38).trans ((fi_mod _).trans (fi_add _ _))
  have f39 : fi pp (s 39) = bb := by rw [e39, fi_mod]; rfl
  have f40 := (congrArg (fi pp) e40).trans ((fi_mod _).trans (fi_mul _ _))
  have f41 := (congrArg (fi pp) e41).trans ((fi_mod _).trans (fi_add _ _))
  have f42 := (congrArg (fi pp) e42).trans ((fi_mod _).trans (fi_add _ _))
  have f43 := (congrArg (fi pp) e43).trans ((fi_mod _).trans (fi_sub l42))
  have f44 := (congrArg (fi pp) e44).trans ((fi_mod _).trans (fi_sub l7))
  have f45 := (congrArg (fi pp) e45).trans ((fi_mod _).trans (fi_add _ _))
  have f46 := (congrArg (fi pp) e46).trans ((fi_mod _).trans (fi_add _ _))
  have f47 := (congrArg (fi pp) e47).trans ((fi_mod _).trans (fi_add _ _))
  have f48 := (congrArg (fi pp) e48).trans ((fi_mod _).trans (fi_add _ _))
  have f49 := (congrArg (fi pp) e49).trans ((fi_mod _).trans (fi_sub l42))
  have f50 := (congrArg (fi pp) e50).trans ((fi_mod _).trans (fi_mul _ _))
  have f51 := (congrArg (fi pp) e51).trans ((fi_mod _).trans (fi_mul _ _))
  have f52 := (congrArg (fi pp) e52).trans ((fi_mod _).trans (fi_mul _ _))
  have f53 := (congrArg (fi pp) e53).trans ((fi_mod _).trans (fi_add _ _))
  have f54 := (congrArg (fi pp) e54).trans ((fi_mod _).trans (fi_mul _ _))
  have f55 := (congrArg (fi pp) e55).trans ((fi_mod _).trans (fi_sub l50))
  have f56 := (congrArg (fi pp) e56).trans ((fi_mod _).trans (fi_mul _ _))
  have f57 := (congrArg (fi pp) e57).trans ((fi_mod _).trans (fi_mul _ _))
  have f58 := (congrArg (fi pp) e58).trans ((fi_mod _).trans (fi_add _ _))
  exact alg74 bb (fi pp (s 0)) (fi pp (s 1)) (fi pp (s 2)) (fi pp (s 3)) (fi pp (s 4)) (fi pp (s 5)) f7 f9 f11 f13 f15 f16 f17 f18 f19 f21 f22 f23 f24 f25 f27 f28 f29 f30 f32 f33 f34 f35 f36 f37 f38 f39 f40 f41 f42 f43 f44 f45 f46 f47 f48 f49 f50 f51 f52 f53 f54 f55 f56 f57 f58
def ex69 : List Ex := [
.fadd (.v 44) (.v 44),
.fadd (.v 43) (.v 43),
.fmul (.v 40) (.v 6),
.fsub (.v 25) (.v 41),
.fmul (.v 40) (.v 33),
.fadd (.v 39) (.v 39),
.fmul (.v 1) (.v 2),
.fadd (.v 24) (.v 37),
.fmul (.v 36) (.v 33),
.fsub (.v 35) (.v 27),
.fadd (.v 34) (.v 4),
.fadd (.v 4) (.v 4),
.fadd (.v 31) (.v 32),
.fadd (.v 31) (.v 31),
.fsub (.v 30) (.v 4),
.fsub (.v 29) (.v 27),
.fmul (.v 28) (.v 14),
.fcst 18958286285566608000408668544493926415504680968679321075787234672564,
.fadd (.v 8) (.v 26),
.fadd (.v 8) (.v 8),
.fmul (.v 22) (.v 11),
.fmul (.v 22) (.v 23),
.fadd (.v 6) (.v 21),
.fsub (.v 6) (.v 21),
.fadd (.v 20) (.v 18),
.fadd (.v 18) (.v 18),
.fcst 0,
.fsub (.v 17) (.v 14),
.fmul (.v 16) (.v 8),
.fcst 18958286285566608000408668544493926415504680968679321075787234672564,
.fcst 0,
.fadd (.v 13) (.v 13),
.fmul (.v 0) (.v 2),
.fcst 0,
.fadd (.v 10) (.v 10),
.fmul (.v 0) (.v 1),
.fcst 0,
.fmul (.v 2) (.v 2),
.fcst 0,
.fmul (.v 1) (.v 1),
.fcst 0,
.fmul (.v 0) (.v 0),
.fcst 0]
theorem alg69 {n : Nat} [NeZero n] (b x0 x1 x2 : Fin n) {t4 t6 t8 t10 t11 t13 t14 t16 t17 t18 t20 t21 t22 t23 t24 t25 t26 t27 t28 t29 t30 t31 t32 t33 t34 t35 t36 t37 t38 t39 t40 t41 t42 t43 t44 t45 : Fin n} (h4 : t4 = x0 * x0)
    (h6 : t6 = x1 * x1)
    (h8 : t8 = x2 * x2)
    (h10 : t10 = x0 * x1)
    (h11 : t11 = t10 + t10)
    (h13 : t13 = x0 * x2)
    (h14 : t14 = t13 + t13)
    (h16 : t16 = b)
    (h17 : t17 = t16 * t8)
    (h18 : t18 = t17 - t14)
    (h20 : t20 = t18 + t18)
    (h21 : t21 = t20 + t18)
    (h22 : t22 = t6 - t21)
    (h23 : t23 = t6 + t21)
    (h24 : t24 = t22 * t23)
    (h25 : t25 = t22 * t11)
    (h26 : t26 = t8 + t8)
    (h27 : t27 = t8 + t26)
    (h28 : t28 = b)
    (h29 : t29 = t28 * t14)
    (h30 : t30 = t29 - t27)
    (h31 : t31 = t30 - t4)
    (h32 : t32 = t31 + t31)
    (h33 : t33 = t31 + t32)
    (h34 : t34 = t4 + t4)
    (h35 : t35 = t34 + t4)
    (h36 : t36 = t35 - t27)
    (h37 : t37 = t36 * t33)
    (h38 : t38 = t24 + t37)
    (h39 : t39 = x1 * x2)
    (h40 : t40 = t39 + t39)
    (h41 : t41 = t40 * t33)
    (h42 : t42 = t25 - t41)
    (h43 : t43 = t40 * t6)
    (h44 : t44 = t43 + t43)
    (h45 : t45 = t44 + t44) :
    t42 = sx b x0 x1 x2 x0 x1 x2 ∧ t38 = sy b x0 x1 x2 x0 x1 x2 ∧ t45 = 8 * (x1 * x1 * x1) * x2 := by
  subst h4 h6 h8 h10 h11 h13 h14 h16 h17 h18 h20 h21 h22 h23 h24 h25 h26 h27 h28 h29 h30 h31 h32 h33 h34 h35 h36 h37 h38 h39 h40 h41 h42 h43 h44 h45
  unfold sx sy
  refine ⟨?_, ?_, ?_⟩ <;> grind
theorem law69 {s : Nums} (h : Holds s 46 ex69) (hi : ∀ i, i < 3 → s i < pq) :
    fi pp (s 42) = sx bb (fi pp (s 0)) (fi pp (s 1)) (fi pp (s 2)) (fi pp (s 0)) (fi pp (s 1)) (fi pp (s 2)) ∧ fi pp (s 38) = sy bb (fi pp (s 0)) (fi pp (s 1)) (fi pp (s 2)) (fi pp (s 0)) (fi pp (s 1)) (fi pp (s 2)) ∧ fi pp (s 45) = 8 * ((fi pp (s 1)) * (fi pp (s 1)) * (fi pp (s 1))) * (fi pp (s 2)) := by
  rw [pq_pp] at hi
  obtain ⟨e45, e44, e43, e42, e41, e40, e39, e38, e37, e36, e35, e34, e33, e32, e31, e30, e29, e28, e27, e26, e25, e24, e23, e22, e21, e20, e19, e18, e17, e16, e15, e14, e13, e12, e11, e10, e9, e8, e7, e6, e5, e4, e3, _⟩ := h
  have e3 : s 3 = 0 % pp := e3
  have e4 : s 4 = s 0 * s 0 % pp := e4
  have e5 : s 5 = 0 % pp := e5
  have e6 : s 6 = s 1 * s 1 % pp := e6
  have e7 : s 7 = 0 % pp := e7
  have e8 : s 8 = s 2 * s 2 % pp := e8
  have e9 : s 9 = 0 % pp := e9
  have e10 : s 10 = s 0 * s 1 % pp := e10
  have e11 : s 11 = (s 10 + s 10) % pp := e11
  have e12 : s 12 = 0 % pp := e12
  have e13 : s 13 = s 0 * s 2 % pp := e13
  have e14 : s 14 = (s 13 + s 13) % pp := e14
  have e15 : s 15 = 0 % pp := e15
  have e16 : s 16 = 18958286285566608000408668544493926415504680968679321075787234672564 % pp := e16
  have e17 : s 17 = s 16 * s 8 % pp := e17
  have e18 : s 18 = (s 17 + (pp - s 14)) % pp := e18
  have e19 : s 19 = 0 % pp := e19
  have e20 : s 20 = (s 18 + s 18) % pp := e20
  have e21 : s 21 = (s 20 + s 18) % pp := e21
  have e22 : s 22 = (s 6 + (pp - s 21)) % pp := e22
  have e23 : s 23 = (s 6 + s 21) % pp := e23
  have e24 : s 24 = s 22 * s 23 % pp := e24
  have e25 : s 25 = s 22 * s 11 % pp := e25
  have e26 : s 26 = (s 8 + s 8) % pp := e26
  have e27 : s 27 = (s 8 + s 26) % pp := e27
  have e28 : s 28 = 18958286285566608000408668544493926415504680968679321075787234672564 % pp := e28
  have e29 : s 29 = s 28 * s 14 % pp := e29
  have e30 : s 30 = (s 29 + (pp - s 27)) % pp := e30
  have e31 : s 31 = (s 30 + (pp - s 4)) % pp := e31
  have e32 : s 32 = (s 31 + s 31) % pp := e32
  have e33 : s 33 = (s 31 + s 32) % pp := e33
  have e34 : s 34 = (s 4 + s 4) % pp := e34
  have e35 : s 35 = (s 34 + s 4) % pp := e35
  have e36 : s 36 = (s 35 + (pp - s 27)) % pp := e36
  have e37 : s 37 = s 36 * s 33 % pp := e37
  have e38 : s 38 = (s 24 + s 37) % pp := e38
  have e39 : s 39 = s 1 * s 2 % pp := e39
  have e40 : s 40 = (s 39 + s 39) % pp := e40
  have e41 : s 41 = s 40 * s 33 % pp := e41
  have e42 : s 42 = (s 25 + (pp - s 41)) % pp := e42
  have e43 : s 43 = s 40 * s 6 % pp := e43
  have e44 : s 44 = (s 43 + s 43) % pp := e44
  have e45 : s 45 = (s 44 + s 44) % pp := e45
  have l0 : s 0 ≤ pp := Nat.le_of_lt (hi 0 (by decide))
  have l1 : s 1 ≤ pp := Nat.le_of_lt (hi 1 (by decide))
  have l2 : s 2 ≤ pp := Nat.le_of_lt (hi 2 (by decide))
  have l3 : s 3 ≤ pp := by rw [e3]; exact Nat.le_of_lt (Nat.mod_lt _ fpos)
  have l4 : s 4 ≤ pp := by rw [e4]; exact Nat.le_of_lt (Nat.mod_lt _ fpos)
  have l5 : s 5 ≤ pp := by rw [e5]; exact Nat.le_of_lt (Nat.mod_lt _ fpos)
  have l6 : s 6 ≤ pp := by rw [e6]; exact Nat.le_of_lt (Nat.mod_lt _ fpos)
  have l7 : s 7 ≤ pp := by rw [e7]; exact Nat.le_of_lt (Nat.mod_lt _ fpos)
  have l8 : s 8 ≤ pp := by rw [e8]; exact Nat.le_of_lt (Nat.mod_lt _ fpos)
  have l9 : s 9 ≤ pp := by rw [e9]; exact Nat.le_of_lt (Nat.mod_lt _ fpos)
  have l10 : s 10 ≤ pp := by rw [e10]; exact Nat.le_of_lt (Nat.mod_lt _ fpos)
  have l11 : s 11 ≤ pp := by rw [e11]; exact Nat.le_of_lt (Nat.mod_lt _ fpos)
  have l12 : s 12 ≤ pp := by rw [e12]; exact Nat.le_of_lt (Nat.mod_lt _ fpos)
  have l13 : s 13 ≤ pp := by rw [e13]; exact Nat.le_of_lt (Nat.mod_lt _ fpos)
  have l14 : s 14 ≤ pp := by rw [e14]; exact Nat.le_of_lt (Nat.mod_lt _ fpos)
  have l15 : s 15 ≤ pp := by rw [e15]; exact Nat.le_of_lt (Nat.mod_lt _ fpos)
  have l16 : s 16 ≤ pp := by rw [e16]; exact Nat.le_of_lt (Nat.mod_lt _ fpos)
  have l17 : s 17 ≤ pp := by rw [e17]; exact Nat.le_of_lt (Nat.mod_lt _ fpos)
  have l18 : s 18 ≤ pp := by rw [e18]; exact Nat.le_of_lt (Nat.mod_lt _ fpos)
  have l19 : s 19 ≤ pp := by rw [e19]; exact Nat.le_of_lt (Nat.mod_lt _ fpos)
  have l20 : s 20 ≤ pp := by rw [e20]; exact Nat.le_of_lt (Nat.mod_lt _ fpos)
  have l21 : s 21 ≤ pp := by rw [e21]; exact Nat.le_of_lt (Nat.mod_lt _ fpos)
  have l22 : s 22 ≤ pp := by rw [e22]; exact Nat.le_of_lt (Nat.mod_lt _ fpos)
  have l23 : s 23 ≤ pp := by rw [e23]; exact Nat.le_of_lt (Nat.mod_lt _ fpos)
  have l24 : s 24 ≤ pp := by rw [e24]; exact Nat.le_of_lt (Nat.mod_lt _ fpos)
  have l25 : s 25 ≤ pp := by rw [e25]; exact Nat.le_of_lt (Nat.mod_lt _ fpos)
  have l26 : s 26 ≤ pp := by rw [e26]; exact Nat.le_of_lt (Nat.mod_lt _ fpos)
  have l27 : s 27 ≤ pp := by rw [e27]; exact Nat.le_of_lt (Nat.mod_lt _ fpos)
  have l28 : s 28 ≤ pp := by rw [e28]; exact Nat.le_of_lt (Nat.mod_lt _ fpos)
  have l29 : s 29 ≤ pp := by rw [e29]; exact Nat.le_of_lt (Nat.mod_lt _ fpos)
  have l30 : s 30 ≤ pp := by rw [e30]; exact Nat.le_of_lt (Nat.mod_lt _ fpos)
  have l31 : s 31 ≤ pp := by rw [e31]; exact Nat.le_of_lt (Nat.mod_lt _ fpos)
  have l32 : s 32 ≤ pp := by rw [e32]; exact Nat.le_of_lt (Nat.mod_lt _ fpos)
  have l33 : s 33 ≤ pp := by rw [e33]; exact Nat.le_of_lt (Nat.mod_lt _ fpos)
  have l34 : s 34 ≤ pp := by rw [e34]; exact Nat.le_of_lt (Nat.mod_lt _ fpos)
  have l35 : s 35 ≤ pp := by rw [e35]; exact Nat.le_of_lt (Nat.mod_lt _ fpos)
  have l36 : s 36 ≤ pp := by rw [e36]; exact Nat.le_of_lt (Nat.mod_lt _ fpos)
  have l37 : s 37 ≤ pp := by rw [e37]; exact Nat.le_of_lt (Nat.mod_lt _ fpos)
  have l38 : s 38 ≤ pp := by rw [e38]; exact Nat.le_of_lt (Nat.mod_lt _ fpos)
  have l39 : s 39 ≤ pp := by rw [e39]; exact Nat.le_of_lt (Nat.mod_lt _ fpos)
  have l40 : s 40 ≤ pp := by rw [e40]; exact Nat.le_of_lt (Nat.mod_lt _ fpos)
  have l41 : s 41 ≤ pp := by rw [e41]; exact Nat.le_of_lt (Nat.mod_lt _ fpos)
  have l42 : s 42 ≤ pp := by rw [e42]; exact Nat.le_of_lt (Nat.mod_lt _ fpos)
  have l43 : s 43 ≤ pp := by rw [e43]; exact Nat.le_of_lt (Nat.mod_lt _ fpos)
  have l44 : s 44 ≤ pp := by rw [e44]; exact Nat.le_of_lt (Nat.mod_lt _ fpos)
  have l45 : s 45 ≤ pp := by rw [e45]; exact Nat.le_of_lt (Nat.mod_lt _ fpos)
  have f4 := (congrArg (fi pp) e4).trans ((fi_mod _).trans (fi_mul _ _))
  have f6 := (congrArg (fi pp) e6).trans ((fi_mod _).trans (fi_mul _ _))
  have f8 := (congrArg (fi pp) e8).trans ((fi_mod _).trans (fi_mul _ _))
  have f10 := (congrArg (fi pp) e10).trans ((fi_mod _).trans (fi_mul _ _))
  have f11 := (congrArg (fi pp) e11).trans ((fi_mod _).trans (fi_add _ _))
  have f13 := (congrArg (fi pp) e13).trans ((fi_mod _).trans (fi_mul _ _))
  have f14 := (congrArg (fi pp) e14).trans ((fi_mod _).trans (fi_add _ _))
  have f16 : fi pp (s 16) = bb := by rw [e16, fi_mod]; rfl
  have f17 := (congrArg (fi pp) e17).trans ((fi_mod _).trans (fi_mul _ _))
  have f18 := (congrArg (fi pp) e18).trans ((fi_mod _).trans (fi_sub l14))
  have f20 := (congrArg (fi pp) e20).trans ((fi_mod _).trans (fi_add _ _))
  have f21 := (congrArg (fi pp) e21).trans ((fi_mod _).trans (fi_add _ _))
  have f22 := (congrArg (fi pp) e22).trans ((fi_mod _).trans (fi_sub l21))
  have f23 := (congrArg (fi pp) e23).trans ((fi_mod _).trans (fi_add _ _))
  have f24 := (congrArg (fi pp) e24).trans ((fi_mod _).trans (fi_mul _ _))
  have f25 := (congrArg (fi pp) e25).trans ((fi_mod _).trans (fi_mul _ _))
  have f26 := (congrArg (fi pp) e26).trans ((fi_mod _).trans (fi_add _ _))
  have f27 := (congrArg (fi pp) e27).trans ((fi_mod _).trans (fi_add _ _))
  have f28 : fi pp (s 28) = bb := by rw [e28, fi_mod]; rfl
  have f29 := (congrArg (fi pp) e29).trans ((fi_mod _).trans (fi_mul _ _))
  have f30 := (congrArg (fi pp) e30).trans ((fi_mod _).trans (fi_sub l27))
  have f31 := (congrArg (fi pp) e31).trans ((fi_mod _).trans (fi_sub l4))
  have f32 := (congrArg (fi pp) e32).trans ((fi_mod _).trans (fi_add _ _))
  have f33 := (congrArg (fi pp) e33).trans ((fi_mod _).trans (fi_add _ _))
  have f34 := (congrArg (fi pp) e34).trans ((fi_mod _).trans (fi_add _ _))
  have f35 := (congrArg (fi pp) e35).trans ((fi_mod _).trans (fi_add _ _))
  have f36 := (congrArg (fi pp) e36).trans ((fi_mod _).trans (fi_sub l27))
  have f37 := (congrArg (fi pp) e37).trans ((fi_mod _).trans (fi_mul _ _))
  have f38 := (congrArg (fi pp) e38).trans ((fi_mod _).trans (fi_add _ _))
  have f39 := (congrArg (fi pp) e39).trans ((fi_mod _).trans (fi_mul _ _))
  have f40 := (congrArg (fi pp) e40).trans ((fi_mod _).trans (fi_add _ _))
  have f41 := (congrArg (fi pp) e41).trans ((fi_mod _).trans (fi_mul _ _))
  have f42 := (congrArg (fi pp) e42).trans ((fi_mod _).trans (fi_sub l41))
  have f43 := (congrArg (fi pp) e43).trans ((fi_mod _).trans (fi_mul _ _))
  have f44 := (congrArg (fi pp) e44).trans ((fi_mod _).trans (fi_add _ _))
  have f45 := (congrArg (fi pp) e45).trans ((fi_mod _).trans (fi_add _ _))
  exact alg69 bb (fi pp (s 0)) (fi pp (s 1)) (fi pp (s 2)) f4 f6 f8 f10 f11 f13 f14 f16 f17 f18 f20 f21 f22 f23 f24 f25 f26 f27 f28 f29 f30 f31 f32 f33 f34 f35 f36 f37 f38 f39 f40 f41 f42 f43 f44 f45
theorem lt74 {s : Nums} (h : Holds s 59 ex74) : s 55 < pq ∧ s 53 < pq ∧ s 58 < pq := by
  obtain ⟨e58, e57, e56, e55, e54, e53, e52, e51, e50, e49, e48, e47, e46, e45, e44, e43, e42, e41, e40, e39, e38, e37, e36, e35, e34, e33, e32, e31, e30, e29, e28, e27, e26, e25, e24, e23, e22, e21, e20, e19, e18, e17, e16, e15, e14, e13, e12, e11, e10, e9, e8, e7, e6, _⟩ := h
  exact ⟨Nat.lt_of_le_of_lt (Nat.le_of_eq e55) (Nat.mod_lt _ fpos), Nat.lt_of_le_of_lt (Nat.le_of_eq e53) (Nat.mod_lt _ fpos), Nat.lt_of_le_of_lt (Nat.le_of_eq e58) (Nat.mod_lt _ fpos)⟩
theorem lt69 {s : Nums} (h : Holds s 46 ex69) : s 42 < pq ∧ s 38 < pq ∧ s 45 < pq := by
  obtain ⟨e45, e44, e43, e42, e41, e40, e39, e38, e37, e36, e35, e34, e33, e32, e31, e30, e29, e28, e27, e26, e25, e24, e23, e22, e21, e20, e19, e18, e17, e16, e15, e14, e13, e12, e11, e10, e9, e8, e7, e6, e5, e4, e3, _⟩ := h
  exact ⟨Nat.lt_of_le_of_lt (Nat.le_of_eq e42) (Nat.mod_lt _ fpos), Nat.lt_of_le_of_lt (Nat.le_of_eq e38) (Nat.mod_lt _ fpos), Nat.lt_of_le_of_lt (Nat.le_of_eq e45) (Nat.mod_lt _ fpos)⟩
end P224
