/- The sum and the double of a point by the package's formulas: what the executor lists are the polynomials. -/
import Derived.Test.YtccmmkgiamcgeaaGE1
import Derived.Test.YtccmmkgiamcgeaaGG6
set_option linter.all false
namespace P224
open Go
set_option maxRecDepth 100000
set_option linter.unusedVariables false
theorem pq_pp:pq=pp:=rfl
theorem fpos:0<pp:=by decide +kernel
def ex74:List Ex:=[
.fadd (.v 56) (.v 57),
.fmul (.v 18) (.v 49),
.fmul (.v 24) (.v 37),
.fsub (.v 54) (.v 50),
.fmul (.v 18) (.v 38),
.fadd (.v 52) (.v 51),
.fmul (.v 38) (.v 37),
.fmul (.v 49) (.v 46),
.fmul (.v 24) (.v 46),
.fsub (.v 48) (.v 42),
.fadd (.v 47) (.v 7),
.fadd (.v 7) (.v 7),
.fadd (.v 45) (.v 44),
.fadd (.v 44) (.v 44),
.fsub (.v 43) (.v 7),
.fsub (.v 40) (.v 42),
.fadd (.v 41) (.v 11),
.fadd (.v 11) (.v 11),
.fmul (.v 39) (.v 30),
.fcst 18958286285566608000408668544493926415504680968679321075787234672564,
.fadd (.v 9) (.v 36),
.fsub (.v 9) (.v 36),
.fadd (.v 34) (.v 35),
.fadd (.v 34) (.v 34),
.fsub (.v 30) (.v 33),
.fmul (.v 32) (.v 11),
.fcst 18958286285566608000408668544493926415504680968679321075787234672564,
.fcst 0,
.fsub (.v 28) (.v 29),
.fadd (.v 7) (.v 11),
.fmul (.v 25) (.v 27),
.fadd (.v 3) (.v 5),
.fcst 0,
.fadd (.v 0) (.v 2),
.fsub (.v 22) (.v 23),
.fadd (.v 9) (.v 11),
.fmul (.v 19) (.v 21),
.fadd (.v 4) (.v 5),
.fcst 0,
.fadd (.v 1) (.v 2),
.fsub (.v 16) (.v 17),
.fadd (.v 7) (.v 9),
.fmul (.v 13) (.v 15),
.fadd (.v 3) (.v 4),
.fcst 0,
.fadd (.v 0) (.v 1),
.fcst 0,
.fmul (.v 2) (.v 5),
.fcst 0,
.fmul (.v 1) (.v 4),
.fcst 0,
.fmul (.v 0) (.v 3),
.fcst 0]
theorem alg74 {n:Nat} [NeZero n] (b x0 x1 x2 x3 x4 x5:Fin n) {t7 t9 t11 t13 t15 t16 t17 t18 t19 t21 t22 t23 t24 t25 t27 t28 t29 t30 t32 t33 t34 t35 t36 t37 t38 t39 t40 t41 t42 t43 t44 t45 t46 t47 t48 t49 t50 t51 t52 t53 t54 t55 t56 t57 t58:Fin n} (h7:t7=x0*x3)
  (h9:t9=x1*x4)
  (h11:t11=x2*x5)
  (h13:t13=x0+x1)
  (h15:t15=x3+x4)
  (h16:t16=t13*t15)
  (h17:t17=t7+t9)
  (h18:t18=t16 - t17)
  (h19:t19=x1+x2)
  (h21:t21=x4+x5)
  (h22:t22=t19*t21)
  (h23:t23=t9+t11)
  (h24:t24=t22 - t23)
  (h25:t25=x0+x2)
  (h27:t27=x3+x5)
  (h28:t28=t25*t27)
  (h29:t29=t7+t11)
  (h30:t30=t28 - t29)
  (h32:t32=b)
  (h33:t33=t32*t11)
  (h34:t34=t30 - t33)
  (h35:t35=t34+t34)
  (h36:t36=t34+t35)
  (h37:t37=t9 - t36)
  (h38:t38=t9+t36)
  (h39:t39=b)
  (h40:t40=t39*t30)
  (h41:t41=t11+t11)
  (h42:t42=t41+t11)
  (h43:t43=t40 - t42)
  (h44:t44=t43 - t7)
  (h45:t45=t44+t44)
  (h46:t46=t45+t44)
  (h47:t47=t7+t7)
  (h48:t48=t47+t7)
  (h49:t49=t48 - t42)
  (h50:t50=t24*t46)
  (h51:t51=t49*t46)
  (h52:t52=t38*t37)
  (h53:t53=t52+t51)
  (h54:t54=t18*t38)
  (h55:t55=t54 - t50)
  (h56:t56=t24*t37)
  (h57:t57=t18*t49)
  (h58:t58=t56+t57) :
  t55=sx b x0 x1 x2 x3 x4 x5∧t53=sy b x0 x1 x2 x3 x4 x5∧t58=sz b x0 x1 x2 x3 x4 x5:=by
 subst h7 h9 h11 h13 h15 h16 h17 h18 h19 h21 h22 h23 h24 h25 h27 h28 h29 h30 h32 h33 h34 h35 h36 h37 h38 h39 h40 h41 h42 h43 h44 h45 h46 h47 h48 h49 h50 h51 h52 h53 h54 h55 h56 h57 h58
 unfold sx sy sz
 refine ⟨?_,?_,?_⟩ <;> grind
theorem law74 {s:Nums} (h:Holds s 59 ex74) (hi:∀ i,i<6→s i<pq) :
  fi pp (s 55)=sx bb (fi pp (s 0)) (fi pp (s 1)) (fi pp (s 2)) (fi pp (s 3)) (fi pp (s 4)) (fi pp (s 5))∧fi pp (s 53)=sy bb (fi pp (s 0)) (fi pp (s 1)) (fi pp (s 2)) (fi pp (s 3)) (fi pp (s 4)) (fi pp (s 5))∧fi pp (s 58)=sz bb (fi pp (s 0)) (fi pp (s 1)) (fi pp (s 2)) (fi pp (s 3)) (fi pp (s 4)) (fi pp (s 5)):=by
 rw [pq_pp] at hi
 obtain ⟨e58,e57,e56,e55,e54,e53,e52,e51,e50,e49,e48,e47,e46,e45,e44,e43,e42,e41,e40,e39,e38,e37,e36,e35,e34,e33,e32,e31,e30,e29,e28,e27,e26,e25,e24,e23,e22,e21,e20,e19,e18,e17,e16,e15,e14,e13,e12,e11,e10,e9,e8,e7,e6,_⟩:=h
 have e6:s 6=0 % pp:=e6
 have e7:s 7=s 0*s 3 % pp:=e7
 have e8:s 8=0 % pp:=e8
 have e9:s 9=s 1*s 4 % pp:=e9
 have e10:s 10=0 % pp:=e10
 have e11:s 11=s 2*s 5 % pp:=e11
 have e12:s 12=0 % pp:=e12
 have e13:s 13=(s 0+s 1) % pp:=e13
 have e14:s 14=0 % pp:=e14
 have e15:s 15=(s 3+s 4) % pp:=e15
 have e16:s 16=s 13*s 15 % pp:=e16
 have e17:s 17=(s 7+s 9) % pp:=e17
 have e18:s 18=(s 16+(pp - s 17)) % pp:=e18
 have e19:s 19=(s 1+s 2) % pp:=e19
 have e20:s 20=0 % pp:=e20
 have e21:s 21=(s 4+s 5) % pp:=e21
 have e22:s 22=s 19*s 21 % pp:=e22
 have e23:s 23=(s 9+s 11) % pp:=e23
 have e24:s 24=(s 22+(pp - s 23)) % pp:=e24
 have e25:s 25=(s 0+s 2) % pp:=e25
 have e26:s 26=0 % pp:=e26
 have e27:s 27=(s 3+s 5) % pp:=e27
 have e28:s 28=s 25*s 27 % pp:=e28
 have e29:s 29=(s 7+s 11) % pp:=e29
 have e30:s 30=(s 28+(pp - s 29)) % pp:=e30
 have e31:s 31=0 % pp:=e31
 have e32:s 32=18958286285566608000408668544493926415504680968679321075787234672564 % pp:=e32
 have e33:s 33=s 32*s 11 % pp:=e33
 have e34:s 34=(s 30+(pp - s 33)) % pp:=e34
 have e35:s 35=(s 34+s 34) % pp:=e35
 have e36:s 36=(s 34+s 35) % pp:=e36
 have e37:s 37=(s 9+(pp - s 36)) % pp:=e37
 have e38:s 38=(s 9+s 36) % pp:=e38
 have e39:s 39=18958286285566608000408668544493926415504680968679321075787234672564 % pp:=e39
 have e40:s 40=s 39*s 30 % pp:=e40
 have e41:s 41=(s 11+s 11) % pp:=e41
 have e42:s 42=(s 41+s 11) % pp:=e42
 have e43:s 43=(s 40+(pp - s 42)) % pp:=e43
 have e44:s 44=(s 43+(pp - s 7)) % pp:=e44
 have e45:s 45=(s 44+s 44) % pp:=e45
 have e46:s 46=(s 45+s 44) % pp:=e46
 have e47:s 47=(s 7+s 7) % pp:=e47
 have e48:s 48=(s 47+s 7) % pp:=e48
 have e49:s 49=(s 48+(pp - s 42)) % pp:=e49
 have e50:s 50=s 24*s 46 % pp:=e50
 have e51:s 51=s 49*s 46 % pp:=e51
 have e52:s 52=s 38*s 37 % pp:=e52
 have e53:s 53=(s 52+s 51) % pp:=e53
 have e54:s 54=s 18*s 38 % pp:=e54
 have e55:s 55=(s 54+(pp - s 50)) % pp:=e55
 have e56:s 56=s 24*s 37 % pp:=e56
 have e57:s 57=s 18*s 49 % pp:=e57
 have e58:s 58=(s 56+s 57) % pp:=e58
 have l0:s 0≤pp:=Nat.le_of_lt (hi 0 (by decide))
 have l1:s 1≤pp:=Nat.le_of_lt (hi 1 (by decide))
 have l2:s 2≤pp:=Nat.le_of_lt (hi 2 (by decide))
 have l3:s 3≤pp:=Nat.le_of_lt (hi 3 (by decide))
 have l4:s 4≤pp:=Nat.le_of_lt (hi 4 (by decide))
 have l5:s 5≤pp:=Nat.le_of_lt (hi 5 (by decide))
 have l6:s 6≤pp:=by rw [e6]; exact Nat.le_of_lt (Nat.mod_lt _ fpos)
 have l7:s 7≤pp:=by rw [e7]; exact Nat.le_of_lt (Nat.mod_lt _ fpos)
 have l8:s 8≤pp:=by rw [e8]; exact Nat.le_of_lt (Nat.mod_lt _ fpos)
 have l9:s 9≤pp:=by rw [e9]; exact Nat.le_of_lt (Nat.mod_lt _ fpos)
 have l10:s 10≤pp:=by rw [e10]; exact Nat.le_of_lt (Nat.mod_lt _ fpos)
 have l11:s 11≤pp:=by rw [e11]; exact Nat.le_of_lt (Nat.mod_lt _ fpos)
 have l12:s 12≤pp:=by rw [e12]; exact Nat.le_of_lt (Nat.mod_lt _ fpos)
 have l13:s 13≤pp:=by rw [e13]; exact Nat.le_of_lt (Nat.mod_lt _ fpos)
 have l14:s 14≤pp:=by rw [e14]; exact Nat.le_of_lt (Nat.mod_lt _ fpos)
 have l15:s 15≤pp:=by rw [e15]; exact Nat.le_of_lt (Nat.mod_lt _ fpos)
 have l16:s 16≤pp:=by rw [e16]; exact Nat.le_of_lt (Nat.mod_lt _ fpos)
 have l17:s 17≤pp:=by rw [e17]; exact Nat.le_of_lt (Nat.mod_lt _ fpos)
 have l18:s 18≤pp:=by rw [e18]; exact Nat.le_of_lt (Nat.mod_lt _ fpos)
 have l19:s 19≤pp:=by rw [e19]; exact Nat.le_of_lt (Nat.mod_lt _ fpos)
 have l20:s 20≤pp:=by rw [e20]; exact Nat.le_of_lt (Nat.mod_lt _ fpos)
 have l21:s 21≤pp:=by rw [e21]; exact Nat.le_of_lt (Nat.mod_lt _ fpos)
 have l22:s 22≤pp:=by rw [e22]; exact Nat.le_of_lt (Nat.mod_lt _ fpos)
 have l23:s 23≤pp:=by rw [e23]; exact Nat.le_of_lt (Nat.mod_lt _ fpos)
 have l24:s 24≤pp:=by rw [e24]; exact Nat.le_of_lt (Nat.mod_lt _ fpos)
 have l25:s 25≤pp:=by rw [e25]; exact Nat.le_of_lt (Nat.mod_lt _ fpos)
 have l26:s 26≤pp:=by rw [e26]; exact Nat.le_of_lt (Nat.mod_lt _ fpos)
 have l27:s 27≤pp:=by rw [e27]; exact Nat.le_of_lt (Nat.mod_lt _ fpos)
 have l28:s 28≤pp:=by rw [e28]; exact Nat.le_of_lt (Nat.mod_lt _ fpos)
 have l29:s 29≤pp:=by rw [e29]; exact Nat.le_of_lt (Nat.mod_lt _ fpos)
 have l30:s 30≤pp:=by rw [e30]; exact Nat.le_of_lt (Nat.mod_lt _ fpos)
 have l31:s 31≤pp:=by rw [e31]; exact Nat.le_of_lt (Nat.mod_lt _ fpos)
 have l32:s 32≤pp:=by rw [e32]; exact Nat.le_of_lt (Nat.mod_lt _ fpos)
 have l33:s 33≤pp:=by rw [e33]; exact Nat.le_of_lt (Nat.mod_lt _ fpos)
 have l34:s 34≤pp:=by rw [e34]; exact Nat.le_of_lt (Nat.mod_lt _ fpos)
 have l35:s 35≤pp:=by rw [e35]; exact Nat.le_of_lt (Nat.mod_lt _ fpos)
 have l36:s 36≤pp:=by rw [e36]; exact Nat.le_of_lt (Nat.mod_lt _ fpos)
 have l37:s 37≤pp:=by rw [e37]; exact Nat.le_of_lt (Nat.mod_lt _ fpos)
 have l38:s 38≤pp:=by rw [e38]; exact Nat.le_of_lt (Nat.mod_lt _ fpos)
 have l39:s 39≤pp:=by rw [e39]; exact Nat.le_of_lt (Nat.mod_lt _ fpos)
 have l40:s 40≤pp:=by rw [e40]; exact Nat.le_of_lt (Nat.mod_lt _ fpos)
 have l41:s 41≤pp:=by rw [e41]; exact Nat.le_of_lt (Nat.mod_lt _ fpos)
 have l42:s 42≤pp:=by rw [e42]; exact Nat.le_of_lt (Nat.mod_lt _ fpos)
 have l43:s 43≤pp:=by rw [e43]; exact Nat.le_of_lt (Nat.mod_lt _ fpos)
 have l44:s 44≤pp:=by rw [e44]; exact Nat.le_of_lt (Nat.mod_lt _ fpos)
 have l45:s 45≤pp:=by rw [e45]; exact Nat.le_of_lt (Nat.mod_lt _ fpos)
 have l46:s 46≤pp:=by rw [e46]; exact Nat.le_of_lt (Nat.mod_lt _ fpos)
 have l47:s 47≤pp:=by rw [e47]; exact Nat.le_of_lt (Nat.mod_lt _ fpos)
 have l48:s 48≤pp:=by rw [e48]; exact Nat.le_of_lt (Nat.mod_lt _ fpos)
 have l49:s 49≤pp:=by rw [e49]; exact Nat.le_of_lt (Nat.mod_lt _ fpos)
 have l50:s 50≤pp:=by rw [e50]; exact Nat.le_of_lt (Nat.mod_lt _ fpos)
 have l51:s 51≤pp:=by rw [e51]; exact Nat.le_of_lt (Nat.mod_lt _ fpos)
 have l52:s 52≤pp:=by rw [e52]; exact Nat.le_of_lt (Nat.mod_lt _ fpos)
 have l53:s 53≤pp:=by rw [e53]; exact Nat.le_of_lt (Nat.mod_lt _ fpos)
 have l54:s 54≤pp:=by rw [e54]; exact Nat.le_of_lt (Nat.mod_lt _ fpos)
 have l55:s 55≤pp:=by rw [e55]; exact Nat.le_of_lt (Nat.mod_lt _ fpos)
 have l56:s 56≤pp:=by rw [e56]; exact Nat.le_of_lt (Nat.mod_lt _ fpos)
 have l57:s 57≤pp:=by rw [e57]; exact Nat.le_of_lt (Nat.mod_lt _ fpos)
 have l58:s 58≤pp:=by rw [e58]; exact Nat.le_of_lt (Nat.mod_lt _ fpos)
 have f7:=(congrArg (fi pp) e7).trans ((fi_mod _).trans (fi_mul _ _))
 have f9:=(congrArg (fi pp) e9).trans ((fi_mod _).trans (fi_mul _ _))
 have f11:=(congrArg (fi pp) e11).trans ((fi_mod _).trans (fi_mul _ _))
 have f13:=(congrArg (fi pp) e13).trans ((fi_mod _).trans (fi_add _ _))
 have f15:=(congrArg (fi pp) e15).trans ((fi_mod _).trans (fi_add _ _))
 have f16:=(congrArg (fi pp) e16).trans ((fi_mod _).trans (fi_mul _ _))
 have f17:=(congrArg (fi pp) e17).trans ((fi_mod _).trans (fi_add _ _))
 have f18:=(congrArg (fi pp) e18).trans ((fi_mod _).trans (fi_sub l17))
 have f19:=(congrArg (fi pp) e19).trans ((fi_mod _).trans (fi_add _ _))
 have f21:=(congrArg (fi pp) e21).trans ((fi_mod _).trans (fi_add _ _))
 have f22:=(congrArg (fi pp) e22).trans ((fi_mod _).trans (fi_mul _ _))
 have f23:=(congrArg (fi pp) e23).trans ((fi_mod _).trans (fi_add _ _))
 have f24:=(congrArg (fi pp) e24).trans ((fi_mod _).trans (fi_sub l23))
 have f25:=(congrArg (fi pp) e25).trans ((fi_mod _).trans (fi_add _ _))
 have f27:=(congrArg (fi pp) e27).trans ((fi_mod _).trans (fi_add _ _))
 have f28:=(congrArg (fi pp) e28).trans ((fi_mod _).trans (fi_mul _ _))
 have f29:=(congrArg (fi pp) e29).trans ((fi_mod _).trans (fi_add _ _))
 have f30:=(congrArg (fi pp) e30).trans ((fi_mod _).trans (fi_sub l29))
 have f32:fi pp (s 32)=bb:=by rw [e32,fi_mod]; rfl
 have f33:=(congrArg (fi pp) e33).trans ((fi_mod _).trans (fi_mul _ _))
 have f34:=(congrArg (fi pp) e34).trans ((fi_mod _).trans (fi_sub l33))
 have f35:=(congrArg (fi pp) e35).trans ((fi_mod _).trans (fi_add _ _))
 have f36:=(congrArg (fi pp) e36).trans ((fi_mod _).trans (fi_add _ _))
 have f37:=(congrArg (fi pp) e37).trans ((fi_mod _).trans (fi_sub l36))
 have f38:=(congrArg (fi pp) e38).trans ((fi_mod _).trans (fi_add _ _))
 have f39:fi pp (s 39)=bb:=by rw [e39,fi_mod]; rfl
 have f40:=(congrArg (fi pp) e40).trans ((fi_mod _).trans (fi_mul _ _))
 have f41:=(congrArg (fi pp) e41).trans ((fi_mod _).trans (fi_add _ _))
 have f42:=(congrArg (fi pp) e42).trans ((fi_mod _).trans (fi_add _ _))
 have f43:=(congrArg (fi pp) e43).trans ((fi_mod _).trans (fi_sub l42))
 have f44:=(congrArg (fi pp) e44).trans ((fi_mod _).trans (fi_sub l7))
 have f45:=(congrArg (fi pp) e45).trans ((fi_mod _).trans (fi_add _ _))
 have f46:=(congrArg (fi pp) e46).trans ((fi_mod _).trans (fi_add _ _))
 have f47:=(congrArg (fi pp) e47).trans ((fi_mod _).trans (fi_add _ _))
 have f48:=(congrArg (fi pp) e48).trans ((fi_mod _).trans (fi_add _ _))
 have f49:=(congrArg (fi pp) e49).trans ((fi_mod _).trans (fi_sub l42))
 have f50:=(congrArg (fi pp) e50).trans ((fi_mod _).trans (fi_mul _ _))
 have f51:=(congrArg (fi pp) e51).trans ((fi_mod _).trans (fi_mul _ _))
 have f52:=(congrArg (fi pp) e52).trans ((fi_mod _).trans (fi_mul _ _))
 have f53:=(congrArg (fi pp) e53).trans ((fi_mod _).trans (fi_add _ _))
 have f54:=(congrArg (fi pp) e54).trans ((fi_mod _).trans (fi_mul _ _))
 have f55:=(congrArg (fi pp) e55).trans ((fi_mod _).trans (fi_sub l50))
 have f56:=(congrArg (fi pp) e56).trans ((fi_mod _).trans (fi_mul _ _))
 have f57:=(congrArg (fi pp) e57).trans ((fi_mod _).trans (fi_mul _ _))
 have f58:=(congrArg (fi pp) e58).trans ((fi_mod _).trans (fi_add _ _))
 exact alg74 bb (fi pp (s 0)) (fi pp (s 1)) (fi pp (s 2)) (fi pp (s 3)) (fi pp (s 4)) (fi pp (s 5)) f7 f9 f11 f13 f15 f16 f17 f18 f19 f21 f22 f23 f24 f25 f27 f28 f29 f30 f32 f33 f34 f35 f36 f37 f38 f39 f40 f41 f42 f43 f44 f45 f46 f47 f48 f49 f50 f51 f52 f53 f54 f55 f56 f57 f58
def ex69:List Ex:=[
.fadd (.v 44) (.v 44),
.fadd (.v 43) (.v 43),
.fmul (.v 40) (.v 6),
.fsub (.v 25) (.v 41),
.fmul (.v 40) (.v 33),
.fadd (.v 39) (.v 39),
.fmul (.v 1) (.v 2),
.fadd (.v 24) (.v 37),
.fmul (.v 36) (.v 33),
.fsub (.v 35) (.v 27),
.fadd (.v 34) (.v 4),
.fadd (.v 4) (.v 4),
.fadd (.v 31) (.v 32),
.fadd (.v 31) (.v 31),
.fsub (.v 30) (.v 4),
.fsub (.v 29) (.v 27),
.fmul (.v 28) (.v 14),
.fcst 18958286285566608000408668544493926415504680968679321075787234672564,
.fadd (.v 8) (.v 26),
.fadd (.v 8) (.v 8),
.fmul (.v 22) (.v 11),
.fmul (.v 22) (.v 23),
.fadd (.v 6) (.v 21),
.fsub (.v 6) (.v 21),
.fadd (.v 20) (.v 18),
.fadd (.v 18) (.v 18),
.fcst 0,
.fsub (.v 17) (.v 14),
.fmul (.v 16) (.v 8),
.fcst 18958286285566608000408668544493926415504680968679321075787234672564,
.fcst 0,
.fadd (.v 13) (.v 13),
.fmul (.v 0) (.v 2),
.fcst 0,
.fadd (.v 10) (.v 10),
.fmul (.v 0) (.v 1),
.fcst 0,
.fmul (.v 2) (.v 2),
.fcst 0,
.fmul (.v 1) (.v 1),
.fcst 0,
.fmul (.v 0) (.v 0),
.fcst 0]
theorem alg69 {n:Nat} [NeZero n] (b x0 x1 x2:Fin n) {t4 t6 t8 t10 t11 t13 t14 t16 t17 t18 t20 t21 t22 t23 t24 t25 t26 t27 t28 t29 t30 t31 t32 t33 t34 t35 t36 t37 t38 t39 t40 t41 t42 t43 t44 t45:Fin n} (h4:t4=x0*x0)
  (h6:t6=x1*x1)
  (h8:t8=x2*x2)
  (h10:t10=x0*x1)
  (h11:t11=t10+t10)
  (h13:t13=x0*x2)
  (h14:t14=t13+t13)
  (h16:t16=b)
  (h17:t17=t16*t8)
  (h18:t18=t17 - t14)
  (h20:t20=t18+t18)
  (h21:t21=t20+t18)
  (h22:t22=t6 - t21)
  (h23:t23=t6+t21)
  (h24:t24=t22*t23)
  (h25:t25=t22*t11)
  (h26:t26=t8+t8)
  (h27:t27=t8+t26)
  (h28:t28=b)
  (h29:t29=t28*t14)
  (h30:t30=t29 - t27)
  (h31:t31=t30 - t4)
  (h32:t32=t31+t31)
  (h33:t33=t31+t32)
  (h34:t34=t4+t4)
  (h35:t35=t34+t4)
  (h36:t36=t35 - t27)
  (h37:t37=t36*t33)
  (h38:t38=t24+t37)
  (h39:t39=x1*x2)
  (h40:t40=t39+t39)
  (h41:t41=t40*t33)
  (h42:t42=t25 - t41)
  (h43:t43=t40*t6)
  (h44:t44=t43+t43)
  (h45:t45=t44+t44) :
  t42=sx b x0 x1 x2 x0 x1 x2∧t38=sy b x0 x1 x2 x0 x1 x2∧t45=8*(x1*x1*x1)*x2:=by
 subst h4 h6 h8 h10 h11 h13 h14 h16 h17 h18 h20 h21 h22 h23 h24 h25 h26 h27 h28 h29 h30 h31 h32 h33 h34 h35 h36 h37 h38 h39 h40 h41 h42 h43 h44 h45
 unfold sx sy
 refine ⟨?_,?_,?_⟩ <;> grind
theorem law69 {s:Nums} (h:Holds s 46 ex69) (hi:∀ i,i<3→s i<pq) :
  fi pp (s 42)=sx bb (fi pp (s 0)) (fi pp (s 1)) (fi pp (s 2)) (fi pp (s 0)) (fi pp (s 1)) (fi pp (s 2))∧fi pp (s 38)=sy bb (fi pp (s 0)) (fi pp (s 1)) (fi pp (s 2)) (fi pp (s 0)) (fi pp (s 1)) (fi pp (s 2))∧fi pp (s 45)=8*((fi pp (s 1))*(fi pp (s 1))*(fi pp (s 1)))*(fi pp (s 2)):=by
 rw [pq_pp] at hi
 obtain ⟨e45,e44,e43,e42,e41,e40,e39,e38,e37,e36,e35,e34,e33,e32,e31,e30,e29,e28,e27,e26,e25,e24,e23,e22,e21,e20,e19,e18,e17,e16,e15,e14,e13,e12,e11,e10,e9,e8,e7,e6,e5,e4,e3,_⟩:=h
 have e3:s 3=0 % pp:=e3
 have e4:s 4=s 0*s 0 % pp:=e4
 have e5:s 5=0 % pp:=e5
 have e6:s 6=s 1*s 1 % pp:=e6
 have e7:s 7=0 % pp:=e7
 have e8:s 8=s 2*s 2 % pp:=e8
 have e9:s 9=0 % pp:=e9
 have e10:s 10=s 0*s 1 % pp:=e10
 have e11:s 11=(s 10+s 10) % pp:=e11
 have e12:s 12=0 % pp:=e12
 have e13:s 13=s 0*s 2 % pp:=e13
 have e14:s 14=(s 13+s 13) % pp:=e14
 have e15:s 15=0 % pp:=e15
 have e16:s 16=18958286285566608000408668544493926415504680968679321075787234672564 % pp:=e16
 have e17:s 17=s 16*s 8 % pp:=e17
 have e18:s 18=(s 17+(pp - s 14)) % pp:=e18
 have e19:s 19=0 % pp:=e19
 have e20:s 20=(s 18+s 18) % pp:=e20
 have e21:s 21=(s 20+s 18) % pp:=e21
 have e22:s 22=(s 6+(pp - s 21)) % pp:=e22
 have e23:s 23=(s 6+s 21) % pp:=e23
 have e24:s 24=s 22*s 23 % pp:=e24
 have e25:s 25=s 22*s 11 % pp:=e25
 have e26:s 26=(s 8+s 8) % pp:=e26
 have e27:s 27=(s 8+s 26) % pp:=e27
 have e28:s 28=18958286285566608000408668544493926415504680968679321075787234672564 % pp:=e28
 have e29:s 29=s 28*s 14 % pp:=e29
 have e30:s 30=(s 29+(pp - s 27)) % pp:=e30
 have e31:s 31=(s 30+(pp - s 4)) % pp:=e31
 have e32:s 32=(s 31+s 31) % pp:=e32
 have e33:s 33=(s 31+s 32) % pp:=e33
 have e34:s 34=(s 4+s 4) % pp:=e34
 have e35:s 35=(s 34+s 4) % pp:=e35
 have e36:s 36=(s 35+(pp - s 27)) % pp:=e36
 have e37:s 37=s 36*s 33 % pp:=e37
 have e38:s 38=(s 24+s 37) % pp:=e38
 have e39:s 39=s 1*s 2 % pp:=e39
 have e40:s 40=(s 39+s 39) % pp:=e40
 have e41:s 41=s 40*s 33 % pp:=e41
 have e42:s 42=(s 25+(pp - s 41)) % pp:=e42
 have e43:s 43=s 40*s 6 % pp:=e43
 have e44:s 44=(s 43+s 43) % pp:=e44
 have e45:s 45=(s 44+s 44) % pp:=e45
 have l0:s 0≤pp:=Nat.le_of_lt (hi 0 (by decide))
 have l1:s 1≤pp:=Nat.le_of_lt (hi 1 (by decide))
 have l2:s 2≤pp:=Nat.le_of_lt (hi 2 (by decide))
 have l3:s 3≤pp:=by rw [e3]; exact Nat.le_of_lt (Nat.mod_lt _ fpos)
 have l4:s 4≤pp:=by rw [e4]; exact Nat.le_of_lt (Nat.mod_lt _ fpos)
 have l5:s 5≤pp:=by rw [e5]; exact Nat.le_of_lt (Nat.mod_lt _ fpos)
 have l6:s 6≤pp:=by rw [e6]; exact Nat.le_of_lt (Nat.mod_lt _ fpos)
 have l7:s 7≤pp:=by rw [e7]; exact Nat.le_of_lt (Nat.mod_lt _ fpos)
 have l8:s 8≤pp:=by rw [e8]; exact Nat.le_of_lt (Nat.mod_lt _ fpos)
 have l9:s 9≤pp:=by rw [e9]; exact Nat.le_of_lt (Nat.mod_lt _ fpos)
 have l10:s 10≤pp:=by rw [e10]; exact Nat.le_of_lt (Nat.mod_lt _ fpos)
 have l11:s 11≤pp:=by rw [e11]; exact Nat.le_of_lt (Nat.mod_lt _ fpos)
 have l12:s 12≤pp:=by rw [e12]; exact Nat.le_of_lt (Nat.mod_lt _ fpos)
 have l13:s 13≤pp:=by rw [e13]; exact Nat.le_of_lt (Nat.mod_lt _ fpos)
 have l14:s 14≤pp:=by rw [e14]; exact Nat.le_of_lt (Nat.mod_lt _ fpos)
 have l15:s 15≤pp:=by rw [e15]; exact Nat.le_of_lt (Nat.mod_lt _ fpos)
 have l16:s 16≤pp:=by rw [e16]; exact Nat.le_of_lt (Nat.mod_lt _ fpos)
 have l17:s 17≤pp:=by rw [e17]; exact Nat.le_of_lt (Nat.mod_lt _ fpos)
 have l18:s 18≤pp:=by rw [e18]; exact Nat.le_of_lt (Nat.mod_lt _ fpos)
 have l19:s 19≤pp:=by rw [e19]; exact Nat.le_of_lt (Nat.mod_lt _ fpos)
 have l20:s 20≤pp:=by rw [e20]; exact Nat.le_of_lt (Nat.mod_lt _ fpos)
 have l21:s 21≤pp:=by rw [e21]; exact Nat.le_of_lt (Nat.mod_lt _ fpos)
 have l22:s 22≤pp:=by rw [e22]; exact Nat.le_of_lt (Nat.mod_lt _ fpos)
 have l23:s 23≤pp:=by rw [e23]; exact Nat.le_of_lt (Nat.mod_lt _ fpos)
 have l24:s 24≤pp:=by rw [e24]; exact Nat.le_of_lt (Nat.mod_lt _ fpos)
 have l25:s 25≤pp:=by rw [e25]; exact Nat.le_of_lt (Nat.mod_lt _ fpos)
 have l26:s 26≤pp:=by rw [e26]; exact Nat.le_of_lt (Nat.mod_lt _ fpos)
 have l27:s 27≤pp:=by rw [e27]; exact Nat.le_of_lt (Nat.mod_lt _ fpos)
 have l28:s 28≤pp:=by rw [e28]; exact Nat.le_of_lt (Nat.mod_lt _ fpos)
 have l29:s 29≤pp:=by rw [e29]; exact Nat.le_of_lt (Nat.mod_lt _ fpos)
 have l30:s 30≤pp:=by rw [e30]; exact Nat.le_of_lt (Nat.mod_lt _ fpos)
 have l31:s 31≤pp:=by rw [e31]; exact Nat.le_of_lt (Nat.mod_lt _ fpos)
 have l32:s 32≤pp:=by rw [e32]; exact Nat.le_of_lt (Nat.mod_lt _ fpos)
 have l33:s 33≤pp:=by rw [e33]; exact Nat.le_of_lt (Nat.mod_lt _ fpos)
 have l34:s 34≤pp:=by rw [e34]; exact Nat.le_of_lt (Nat.mod_lt _ fpos)
 have l35:s 35≤pp:=by rw [e35]; exact Nat.le_of_lt (Nat.mod_lt _ fpos)
 have l36:s 36≤pp:=by rw [e36]; exact Nat.le_of_lt (Nat.mod_lt _ fpos)
 have l37:s 37≤pp:=by rw [e37]; exact Nat.le_of_lt (Nat.mod_lt _ fpos)
 have l38:s 38≤pp:=by rw [e38]; exact Nat.le_of_lt (Nat.mod_lt _ fpos)
 have l39:s 39≤pp:=by rw [e39]; exact Nat.le_of_lt (Nat.mod_lt _ fpos)
 have l40:s 40≤pp:=by rw [e40]; exact Nat.le_of_lt (Nat.mod_lt _ fpos)
 have l41:s 41≤pp:=by rw [e41]; exact Nat.le_of_lt (Nat.mod_lt _ fpos)
 have l42:s 42≤pp:=by rw [e42]; exact Nat.le_of_lt (Nat.mod_lt _ fpos)
 have l43:s 43≤pp:=by rw [e43]; exact Nat.le_of_lt (Nat.mod_lt _ fpos)
 have l44:s 44≤pp:=by rw [e44]; exact Nat.le_of_lt (Nat.mod_lt _ fpos)
 have l45:s 45≤pp:=by rw [e45]; exact Nat.le_of_lt (Nat.mod_lt _ fpos)
 have f4:=(congrArg (fi pp) e4).trans ((fi_mod _).trans (fi_mul _ _))
 have f6:=(congrArg (fi pp) e6).trans ((fi_mod _).trans (fi_mul _ _))
 have f8:=(congrArg (fi pp) e8).trans ((fi_mod _).trans (fi_mul _ _))
 have f10:=(congrArg (fi pp) e10).trans ((fi_mod _).trans (fi_mul _ _))
 have f11:=(congrArg (fi pp) e11).trans ((fi_mod _).trans (fi_add _ _))
 have f13:=(congrArg (fi pp) e13).trans ((fi_mod _).trans (fi_mul _ _))
 have f14:=(congrArg (fi pp) e14).trans ((fi_mod _).trans (fi_add _ _))
 have f16:fi pp (s 16)=bb:=by rw [e16,fi_mod]; rfl
 have f17:=(congrArg (fi pp) e17).trans ((fi_mod _).trans (fi_mul _ _))
 have f18:=(congrArg (fi pp) e18).trans ((fi_mod _).trans (fi_sub l14))
 have f20:=(congrArg (fi pp) e20).trans ((fi_mod _).trans (fi_add _ _))
 have f21:=(congrArg (fi pp) e21).trans ((fi_mod _).trans (fi_add _ _))
 have f22:=(congrArg (fi pp) e22).trans ((fi_mod _).trans (fi_sub l21))
 have f23:=(congrArg (fi pp) e23).trans ((fi_mod _).trans (fi_add _ _))
 have f24:=(congrArg (fi pp) e24).trans ((fi_mod _).trans (fi_mul _ _))
 have f25:=(congrArg (fi pp) e25).trans ((fi_mod _).trans (fi_mul _ _))
 have f26:=(congrArg (fi pp) e26).trans ((fi_mod _).trans (fi_add _ _))
 have f27:=(congrArg (fi pp) e27).trans ((fi_mod _).trans (fi_add _ _))
 have f28:fi pp (s 28)=bb:=by rw [e28,fi_mod]; rfl
 have f29:=(congrArg (fi pp) e29).trans ((fi_mod _).trans (fi_mul _ _))
 have f30:=(congrArg (fi pp) e30).trans ((fi_mod _).trans (fi_sub l27))
 have f31:=(congrArg (fi pp) e31).trans ((fi_mod _).trans (fi_sub l4))
 have f32:=(congrArg (fi pp) e32).trans ((fi_mod _).trans (fi_add _ _))
 have f33:=(congrArg (fi pp) e33).trans ((fi_mod _).trans (fi_add _ _))
 have f34:=(congrArg (fi pp) e34).trans ((fi_mod _).trans (fi_add _ _))
 have f35:=(congrArg (fi pp) e35).trans ((fi_mod _).trans (fi_add _ _))
 have f36:=(congrArg (fi pp) e36).trans ((fi_mod _).trans (fi_sub l27))
 have f37:=(congrArg (fi pp) e37).trans ((fi_mod _).trans (fi_mul _ _))
 have f38:=(congrArg (fi pp) e38).trans ((fi_mod _).trans (fi_add _ _))
 have f39:=(congrArg (fi pp) e39).trans ((fi_mod _).trans (fi_mul _ _))
 have f40:=(congrArg (fi pp) e40).trans ((fi_mod _).trans (fi_add _ _))
 have f41:=(congrArg (fi pp) e41).trans ((fi_mod _).trans (fi_mul _ _))
 have f42:=(congrArg (fi pp) e42).trans ((fi_mod _).trans (fi_sub l41))
 have f43:=(congrArg (fi pp) e43).trans ((fi_mod _).trans (fi_mul _ _))
 have f44:=(congrArg (fi pp) e44).trans ((fi_mod _).trans (fi_add _ _))
 have f45:=(congrArg (fi pp) e45).trans ((fi_mod _).trans (fi_add _ _))
 exact alg69 bb (fi pp (s 0)) (fi pp (s 1)) (fi pp (s 2)) f4 f6 f8 f10 f11 f13 f14 f16 f17 f18 f20 f21 f22 f23 f24 f25 f26 f27 f28 f29 f30 f31 f32 f33 f34 f35 f36 f37 f38 f39 f40 f41 f42 f43 f44 f45
theorem lt74 {s:Nums} (h:Holds s 59 ex74):s 55<pq∧s 53<pq∧s 58<pq:=by
 obtain ⟨e58,e57,e56,e55,e54,e53,e52,e51,e50,e49,e48,e47,e46,e45,e44,e43,e42,e41,e40,e39,e38,e37,e36,e35,e34,e33,e32,e31,e30,e29,e28,e27,e26,e25,e24,e23,e22,e21,e20,e19,e18,e17,e16,e15,e14,e13,e12,e11,e10,e9,e8,e7,e6,_⟩:=h
 exact ⟨Nat.lt_of_le_of_lt (Nat.le_of_eq e55) (Nat.mod_lt _ fpos),Nat.lt_of_le_of_lt (Nat.le_of_eq e53) (Nat.mod_lt _ fpos),Nat.lt_of_le_of_lt (Nat.le_of_eq e58) (Nat.mod_lt _ fpos)⟩
theorem lt69 {s:Nums} (h:Holds s 46 ex69):s 42<pq∧s 38<pq∧s 45<pq:=by
 obtain ⟨e45,e44,e43,e42,e41,e40,e39,e38,e37,e36,e35,e34,e33,e32,e31,e30,e29,e28,e27,e26,e25,e24,e23,e22,e21,e20,e19,e18,e17,e16,e15,e14,e13,e12,e11,e10,e9,e8,e7,e6,e5,e4,e3,_⟩:=h
 exact ⟨Nat.lt_of_le_of_lt (Nat.le_of_eq e42) (Nat.mod_lt _ fpos),Nat.lt_of_le_of_lt (Nat.le_of_eq e38) (Nat.mod_lt _ fpos),Nat.lt_of_le_of_lt (Nat.le_of_eq e45) (Nat.mod_lt _ fpos)⟩
end P224
/- The constant of the curve, the sum and the double of points: what they do, and as calls that the executor knows. -/
namespace P224
open Go Go.RowKit Go.Proofs
set_option maxRecDepth 100000
set_option linter.unusedVariables false
noncomputable def xs91:List (Nat × X):=[(94,x94)]
theorem xs91_ok:XsOk xs91:=xcons_ok x94_ok xnil_ok
def fixD (nt n:Nat) (l:List Nat) (sp:List (Nat × Nat)) (d:List (Nat × Bool)):Fix :=
 { nt:=nt,nold:=n,wr:=fun r=>l.contains r,sep:=fun a b=>sp.contains (a,b) || sp.contains (b,a),dec:=fun i=>findT i d }
def bBytes:List Nat:=[180,5,10,133,12,4,179,171,245,65,50,86,80,68,176,183,215,191,216,186,39,11,57,67,35,85,255,180]
def b91:BriefR:=⟨.ret,3,[.op 4 [.v 1,.c pq],.op 2 (bBytes.map .c),.fcst 0],[],[.one (.ptr 0 0)],[some (limbs 1)]⟩
theorem run91:briefR (tabX true [] xs91) Try.f91 [0] (runF (tabX true [] xs91) (fixD 10 0 [] [] [(2,true)]) 2000 Try.f91 (startSt [] [] 0 0))=some b91:=by kernel_rfl
theorem bBytes_val:ofBytes bBytes=bq:=by decide +kernel
theorem bq_lt:bq<pq:=by decide +kernel
theorem meets91:PrimOk Try.prog 91 .fB:=by
 unfold PrimOk
 intro w
 refine meets_of_calls Try.func91 (by kernel_rfl) (by kernel_rfl) ?_
 have e1:∀ s:Nums,Holds s 3 b91.exs→s 1=bq∧s 2=1:=fun s hH=>by
  obtain ⟨h2,h1,_⟩:=hH
  have h1':s 1=ofBytes bBytes:=h1
  have h2':s 2=if s 1<pq then 1 else 0:=h2
  rw [bBytes_val] at h1'
  rw [h1',if_pos bq_lt] at h2'
  exact ⟨h1',h2'⟩
 refine calls_briefR (F:=fixD 10 0 [] [] [(2,true)]) (tabX_ok noPrims_ok xs91_ok) run91 Try.func91 Try.ntmps91 rfl (by decide +kernel) (by decide +kernel) (by decide +kernel) (by decide) (by decide) (fun _=>0) (fun _=>(0,0))
  (vals:=[]) (fun s hs=>trivial) (fun s hs=>trivial) (fun r l hl=>by cases hl) (fun r hr=>absurd hr (Nat.not_lt_zero r)) (fun r q hr=>absurd hr (Nat.not_lt_zero r)) ?_ ?_
 ·intro s hs hH i bb hb
  have hb':findT i [(2,true)]=some bb:=hb
  have:=findT_mem hb'
  simp only [List.mem_cons,List.not_mem_nil,or_false,Prod.mk.injEq] at this
  obtain ⟨rfl,rfl⟩:=this
  exact (e1 s hH).2
 ·intro s hs hH st' β' a' w' v hv hm hag hr hbe
  have hl:lookup 0 st'.mem=some (limbs 1):=by
   have:[lookup 0 st'.mem]=[some (limbs 1)]:=hm
   simpa using this
  obtain ⟨hrn,hc⟩:=hr.mem 0 _ hl
  have hv':v=.pointer (some (at_ β' 0 0)):=hv.1
  obtain ⟨f1,f2,f3⟩:=hr.fresh 0 (Nat.zero_le _) hrn
  have hel:elemAt st'.mem 0 0=some 1:=by
   unfold elemAt cellsAt
   rw [hl]
   rfl
  obtain ⟨g1,g2⟩:=elemAt_rep hr hel
  rw [(e1 s hH).1,f3] at g1
  refine ⟨_,rfl,(β' 0).1,f1,f2,?_,g1,fun k hk=>?_,hbe⟩
  ·rw [hv',at_,f3]
  ·have:=hr.frz 0 _ hl (.inl (Nat.zero_le _)) k hk
   rw [at_,f3,Nat.zero_add] at this
   exact this
structure PtR where
 b:Nat
 o:Nat
 bx:Nat
 ox:Nat
 b2:Nat
 oy:Nat
 bz:Nat
 oz:Nat
def PtR.cells (p:PtR) (w:World):Prop :=
 w.cell? ⟨p.b,p.o,none⟩=some (ptrTo p.bx p.ox)∧w.cell? ⟨p.b,p.o+1,none⟩=some (ptrTo p.b2 p.oy)∧w.cell? ⟨p.b,p.o+2,none⟩=some (ptrTo p.bz p.oz)
def PtR.room (p:PtR) (w:World):Prop:=(RoomAt w p.bx p.ox∧RoomAt w p.b2 p.oy∧RoomAt w p.bz p.oz)∧p.bx<w.heap.size∧p.b2<w.heap.size∧p.bz<w.heap.size
def PtR.apart (p:PtR):Prop:=p.b≠p.bx∧p.b≠p.b2∧p.b≠p.bz∧p.bx≠p.b2∧p.bx≠p.bz∧p.b2≠p.bz
def PtR.val (p:PtR) (w:World) (x y z:Nat):Prop:=ElemAt w p.bx p.ox x∧ElemAt w p.b2 p.oy y∧ElemAt w p.bz p.oz z∧x<pq∧y<pq∧z<pq
def PtR.set (p:PtR) (w:World) (x y z:Nat):World:=((w.setCells p.bx p.ox (words x)).setCells p.b2 p.oy (words y)).setCells p.bz p.oz (words z)
def ptCells (r:Nat):List A0:=[.ptr (r+1) 0,.ptr (r+2) 0,.ptr (r+3) 0]
def a4:List A0:=[.any,.any,.any,.any]
def outPt (i j k:Nat):List (Nat × Nat × A0):=[(3,3,.limb k 3),(3,2,.limb k 2),(3,1,.limb k 1),(3,0,.limb k 0),(2,3,.limb j 3),(2,2,.limb j 2),(2,1,.limb j 1),(2,0,.limb j 0),(1,3,.limb i 3),(1,2,.limb i 2),(1,1,.limb i 1),(1,0,.limb i 0)]
def sp0:List (Nat × Nat):=[(0,1),(0,2),(0,3),(1,2),(1,3),(2,3)]
def pointPrims:List (Nat × Prim):=(91,.fB) :: bytePrims
theorem pointPrims_ok:∀ f p,(f,p) ∈ pointPrims→PrimOk Try.prog f p:=fun f p h=>by
 rcases List.mem_cons.1 h with e | h
 ·cases e; exact meets91
 ·exact bytePrims_ok f p h
theorem outPt_apply {s:Nums} {β:Places} {w:World} {i j k:Nat} {p:PtR} (h1:β 1=(p.bx,p.ox)) (h2:β 2=(p.b2,p.oy)) (h3:β 3=(p.bz,p.oz)):applyOut s β w (outPt i j k)=p.set w (s i) (s j) (s k):=by
 have e:applyOut s β w (outPt i j k)=(((((((((((w.setCell (at_ β 1 0) (.int .u64 (lim 0 (s i):Int))).setCell (at_ β 1 1) (.int .u64 (lim 1 (s i):Int))).setCell (at_ β 1 2) (.int .u64 (lim 2 (s i):Int))).setCell (at_ β 1 3) (.int .u64 (lim 3 (s i):Int))).setCell
  (at_ β 2 0) (.int .u64 (lim 0 (s j):Int))).setCell (at_ β 2 1) (.int .u64 (lim 1 (s j):Int))).setCell (at_ β 2 2) (.int .u64 (lim 2 (s j):Int))).setCell (at_ β 2 3) (.int .u64 (lim 3 (s j):Int))).setCell
  (at_ β 3 0) (.int .u64 (lim 0 (s k):Int))).setCell (at_ β 3 1) (.int .u64 (lim 1 (s k):Int))).setCell (at_ β 3 2) (.int .u64 (lim 2 (s k):Int))).setCell (at_ β 3 3) (.int .u64 (lim 3 (s k):Int)):=rfl
 rw [e]
 simp only [at_,h1,h2,h3]
 rfl
theorem limb_row {s:Nums} {β:Places} {n r i b o x:Nat} {w:World} (hβ:β r=(b,o)) (h:ElemAt w b o x) (hs:s i=x) (hx:x<pq):RowOk s β n r w 0 (limbs i):=by
 have key:∀ k,k<4→∃ v,w.cell? (at_ β r k)=some v∧(A0.limb i k).rep s β n v:=fun k hk=>by
  refine ⟨_,by rw [at_,hβ]; exact h k hk,?_,?_⟩
  ·rw [hs]
  ·rw [hs]; exact hx
 exact ⟨key 0 (by decide),key 1 (by decide),key 2 (by decide),key 3 (by decide),trivial⟩
theorem a4_row {s:Nums} {β:Places} {n r b o:Nat} {w:World} (hβ:β r=(b,o)) (h:RoomAt w b o):RowOk s β n r w 0 a4:=any4_row hβ h
theorem pt_row {s:Nums} {β:Places} {n r:Nat} {p:PtR} {w:World} (h0:β r=(p.b,p.o)) (h1:β (r+1)=(p.bx,p.ox)) (h2:β (r+2)=(p.b2,p.oy)) (h3:β (r+3)=(p.bz,p.oz)) (hc:p.cells w) (hn:r+3<n) :
  RowOk s β n r w 0 (ptCells r):=by
 obtain ⟨c1,c2,c3⟩:=hc
 refine ⟨⟨_,by rw [at_,h0]; exact c1,?_,by omega⟩,⟨_,by rw [at_,h0]; exact c2,?_,by omega⟩,⟨_,by rw [at_,h0]; exact c3,?_,by omega⟩,trivial⟩
 ·rw [at_,h1]; rfl
 ·rw [at_,h2]; rfl
 ·rw [at_,h3]; rfl
theorem eq_of_fi {a c:Nat} (ha:a<pp) (hc:c<pp) (h:fi pp a=fi pp c):a=c:=by
 have:=fi_eq.1 h
 rwa [Nat.mod_eq_of_lt ha,Nat.mod_eq_of_lt hc] at this
theorem sx_eq (x1 y1 z1 x2 y2 z2:Nat) {a:Nat} (ha:a<pq) (h:fi pp a=sx bb (fi pp x1) (fi pp y1) (fi pp z1) (fi pp x2) (fi pp y2) (fi pp z2)):a=sxN pq bq x1 y1 z1 x2 y2 z2:=by
 refine eq_of_fi ha (Nat.mod_lt _ fpos) ?_
 rw [h]
 exact (fi_sxN bN x1 y1 z1 x2 y2 z2).symm
theorem sy_eq (x1 y1 z1 x2 y2 z2:Nat) {a:Nat} (ha:a<pq) (h:fi pp a=sy bb (fi pp x1) (fi pp y1) (fi pp z1) (fi pp x2) (fi pp y2) (fi pp z2)):a=syN pq bq x1 y1 z1 x2 y2 z2:=by
 refine eq_of_fi ha (Nat.mod_lt _ fpos) ?_
 rw [h]
 exact (fi_syN bN x1 y1 z1 x2 y2 z2).symm
theorem sz_eq (x1 y1 z1 x2 y2 z2:Nat) {a:Nat} (ha:a<pq) (h:fi pp a=sz bb (fi pp x1) (fi pp y1) (fi pp z1) (fi pp x2) (fi pp y2) (fi pp z2)):a=szN pq bq x1 y1 z1 x2 y2 z2:=by
 refine eq_of_fi ha (Nat.mod_lt _ fpos) ?_
 rw [h]
 exact (fi_szN bN x1 y1 z1 x2 y2 z2).symm
theorem dz_eq (y z:Nat) {a:Nat} (ha:a<pq) (h:fi pp a=8*(fi pp y*fi pp y*fi pp y)*fi pp z):a=8*(y*y*y)*z % pq:=by
 refine eq_of_fi ha (Nat.mod_lt _ fpos) ?_
 rw [h,pq_pp,fi_mod,fi_mul,fi_mul,fi_mul,fi_mul]
 rfl
def b74:BriefR:=⟨.ret,59,ex74,outPt 55 53 58,[.one (.ptr 0 0)],[]⟩
def st74:St:=startSt [.one (.ptr 0 0),.one (.ptr 4 0),.one (.ptr 8 0)] [(0,ptCells 0),(1,a4),(2,a4),(3,a4),(4,ptCells 4),(5,limbs 0),(6,limbs 1),(7,limbs 2),(8,ptCells 8),(9,limbs 3),(10,limbs 4),(11,limbs 5)] 6 12
theorem run74:briefR (tabX true pointPrims []) Try.f74 [] (runF (tabX true pointPrims []) (fixD 260 12 [1,2,3] sp0 []) 2000 Try.f74 st74)=some b74:=by kernel_rfl
def b69:BriefR:=⟨.ret,46,ex69,outPt 42 38 45,[.one (.ptr 0 0)],[]⟩
def st69:St:=startSt [.one (.ptr 0 0),.one (.ptr 4 0)] [(0,ptCells 0),(1,a4),(2,a4),(3,a4),(4,ptCells 4),(5,limbs 0),(6,limbs 1),(7,limbs 2)] 3 8
theorem run69:briefR (tabX true pointPrims []) Try.f69 [] (runF (tabX true pointPrims []) (fixD 191 8 [1,2,3] sp0 []) 2000 Try.f69 st69)=some b69:=by kernel_rfl
theorem tabP_ok:(tabX true pointPrims []).Ok Try.prog:=tabX_ok pointPrims_ok xnil_ok
def ptPlace (p:PtR):Nat→Nat × Nat
 | 0=>(p.b,p.o)
 | 1=>(p.bx,p.ox)
 | 2=>(p.b2,p.oy)
 | _=>(p.bz,p.oz)
theorem ptPlace_lt {p:PtR} {w:World} (hc:p.cells w) (h1:p.bx<w.heap.size) (h2:p.b2<w.heap.size) (h3:p.bz<w.heap.size) (k:Nat):(ptPlace p k).1<w.heap.size:=by
 unfold ptPlace
 split
 ·exact World.block_lt_of_cell? w _ hc.1
 ·exact h1
 ·exact h2
 ·exact h3
theorem val_lt {p:PtR} {w:World} {x y z:Nat} (h:p.val w x y z):p.bx<w.heap.size∧p.b2<w.heap.size∧p.bz<w.heap.size :=
 ⟨World.block_lt_of_cell? w _ (h.1 0 (by decide)),World.block_lt_of_cell? w _ (h.2.1 0 (by decide)),World.block_lt_of_cell? w _ (h.2.2.1 0 (by decide))⟩
theorem sp0_apart {p:PtR} (h:p.apart) {β:Places} (h0:β 0=(p.b,p.o)) (h1:β 1=(p.bx,p.ox)) (h2:β 2=(p.b2,p.oy)) (h3:β 3=(p.bz,p.oz)) {r q:Nat} (hs:(sp0.contains (r,q) || sp0.contains (q,r))=true):(β r).1≠(β q).1:=by
 obtain ⟨a1,a2,a3,a4,a5,a6⟩:=h
 have key:∀ r q,sp0.contains (r,q)=true→(β r).1≠(β q).1:=by
  intro r q hs
  have hm:=List.elem_iff.1 hs
  simp only [sp0,List.mem_cons,List.not_mem_nil,or_false,Prod.mk.injEq] at hm
  rcases hm with ⟨rfl,rfl⟩|⟨rfl,rfl⟩|⟨rfl,rfl⟩|⟨rfl,rfl⟩|⟨rfl,rfl⟩|⟨rfl,rfl⟩ <;> simp only [h0,h1,h2,h3] <;> assumption
 rw [Bool.or_eq_true] at hs
 rcases hs with hs | hs
 ·exact key r q hs
 ·exact fun e=>key q r hs e.symm
theorem meets74 (w:World) (p p1 p2:PtR) (x1 y1 z1 x2 y2 z2:Nat) (hc:p.cells w) (hrm:p.room w) (hap:p.apart) (hc1:p1.cells w) (hv1:p1.val w x1 y1 z1) (hc2:p2.cells w) (hv2:p2.val w x2 y2 z2) :
  Meets Try.prog 74 #[ptrTo p.b p.o,ptrTo p1.b p1.o,ptrTo p2.b p2.o] w fun v w'=>v=ptrTo p.b p.o ∧
   Below w.heap.size (p.set w (sxN pq bq x1 y1 z1 x2 y2 z2) (syN pq bq x1 y1 z1 x2 y2 z2) (szN pq bq x1 y1 z1 x2 y2 z2)) w':=by
 refine meets_of_calls Try.func74 (by kernel_rfl) (by kernel_rfl) ?_
 let β:Places:=fun r=>if r<4 then ptPlace p r else if r<8 then ptPlace p1 (r - 4) else ptPlace p2 (r - 8)
 let s0:Nums:=fun i=>match i with | 0=>x1 | 1=>y1 | 2=>z1 | 3=>x2 | 4=>y2 | _=>z2
 obtain ⟨⟨r1,r2,r3⟩,l1,l2,l3⟩:=hrm
 obtain ⟨m1,m2,m3⟩:=val_lt hv1
 obtain ⟨n1,n2,n3⟩:=val_lt hv2
 obtain ⟨v1,v2,v3,v4,v5,v6⟩:=hv1
 obtain ⟨u1,u2,u3,u4,u5,u6⟩:=hv2
 refine calls_briefR (F:=fixD 260 12 [1,2,3] sp0 []) tabP_ok run74 Try.func74 Try.ntmps74 rfl (by decide +kernel) (by decide +kernel) (by decide +kernel) (show 3≤260 by decide) (show 3<4095 by decide) s0 β
  (vals:=[ptrTo p.b p.o,ptrTo p1.b p1.o,ptrTo p2.b p2.o]) (fun s hs=>⟨⟨rfl,show 0<12 by decide⟩,⟨rfl,show 4<12 by decide⟩,⟨rfl,show 8<12 by decide⟩,trivial⟩) ?_ ?_ ?_ ?_ (fun _ _ _ i b h=>by cases h) ?_
 ·intro s hs
  have s0':=hs 0 (by decide)
  have s1':=hs 1 (by decide)
  have s2':=hs 2 (by decide)
  have s3':=hs 3 (by decide)
  have s4':=hs 4 (by decide)
  have s5':=hs 5 (by decide)
  exact ⟨by decide,pt_row (p:=p) rfl rfl rfl rfl hc (by decide),by decide,a4_row rfl r1,by decide,a4_row rfl r2,by decide,a4_row rfl r3,
   by decide,pt_row (p:=p1) rfl rfl rfl rfl hc1 (by decide),by decide,limb_row rfl v1 s0' v4,by decide,limb_row rfl v2 s1' v5,by decide,limb_row rfl v3 s2' v6,
   by decide,pt_row (p:=p2) rfl rfl rfl rfl hc2 (by decide),by decide,limb_row rfl u1 s3' u4,by decide,limb_row rfl u2 s4' u5,by decide,limb_row rfl u3 s5' u6,trivial⟩
 ·intro r l hl hr
  have hm:=List.elem_iff.1 hr
  simp only [List.mem_cons,List.not_mem_nil,or_false] at hm
  rcases hm with rfl | rfl | rfl <;> cases hl
  ·exact any4_frz rfl r1
  ·exact any4_frz rfl r2
  ·exact any4_frz rfl r3
 ·intro r _
  show (if r<4 then ptPlace p r else if r<8 then ptPlace p1 (r - 4) else ptPlace p2 (r - 8)).1<_
  split
  ·exact ptPlace_lt hc l1 l2 l3 _
  ·split
   ·exact ptPlace_lt hc1 m1 m2 m3 _
   ·exact ptPlace_lt hc2 n1 n2 n3 _
 ·intro r q _ _ hs
  exact sp0_apart hap (β:=β) rfl rfl rfl rfl hs
 ·intro s hs hH st' β' a' w' v hv _ hag hr hbe
  have s0':s 0=x1:=hs 0 (by decide)
  have s1':s 1=y1:=hs 1 (by decide)
  have s2':s 2=z1:=hs 2 (by decide)
  have s3':s 3=x2:=hs 3 (by decide)
  have s4':s 4=y2:=hs 4 (by decide)
  have s5':s 5=z2:=hs 5 (by decide)
  have hin:∀ i,i<6→s i<pq:=by
   intro i hi
   have:i=0∨i=1∨i=2∨i=3∨i=4∨i=5:=by omega
   rcases this with rfl | rfl | rfl | rfl | rfl | rfl
   ·rw [s0']; exact v4
   ·rw [s1']; exact v5
   ·rw [s2']; exact v6
   ·rw [s3']; exact u4
   ·rw [s4']; exact u5
   ·rw [s5']; exact u6
  obtain ⟨f1,f2,f3⟩:=law74 hH hin
  rw [s0',s1',s2',s3',s4',s5'] at f1 f2 f3
  have lt:=lt74 hH
  have g1:=sx_eq x1 y1 z1 x2 y2 z2 lt.1 f1
  have g2:=sy_eq x1 y1 z1 x2 y2 z2 lt.2.1 f2
  have g3:=sz_eq x1 y1 z1 x2 y2 z2 lt.2.2 f3
  have hb0:β' 0=(p.b,p.o):=hag 0 (by decide)
  have hv':v=.pointer (some (at_ β' 0 0)):=hv.1
  refine ⟨_,rfl,by rw [hv',at_,hb0]; rfl,?_⟩
  have e:=outPt_apply (s:=s) (w:=w) (i:=55) (j:=53) (k:=58) (p:=p) (β:=β') (hag 1 (by decide)) (hag 2 (by decide)) (hag 3 (by decide))
  have hbe':Below w.heap.size (applyOut s β' w (outPt 55 53 58)) w':=hbe
  rw [e,g1,g2,g3] at hbe'
  exact hbe'
theorem meets69 (w:World) (p p1:PtR) (x1 y1 z1:Nat) (hc:p.cells w) (hrm:p.room w) (hap:p.apart) (hc1:p1.cells w) (hv1:p1.val w x1 y1 z1) :
  Meets Try.prog 69 #[ptrTo p.b p.o,ptrTo p1.b p1.o] w fun v w'=>v=ptrTo p.b p.o ∧
   Below w.heap.size (p.set w (sxN pq bq x1 y1 z1 x1 y1 z1) (syN pq bq x1 y1 z1 x1 y1 z1) (8*(y1*y1*y1)*z1 % pq)) w':=by
 refine meets_of_calls Try.func69 (by kernel_rfl) (by kernel_rfl) ?_
 let β:Places:=fun r=>if r<4 then ptPlace p r else ptPlace p1 (r - 4)
 let s0:Nums:=fun i=>match i with | 0=>x1 | 1=>y1 | _=>z1
 obtain ⟨⟨r1,r2,r3⟩,l1,l2,l3⟩:=hrm
 obtain ⟨m1,m2,m3⟩:=val_lt hv1
 obtain ⟨v1,v2,v3,v4,v5,v6⟩:=hv1
 refine calls_briefR (F:=fixD 191 8 [1,2,3] sp0 []) tabP_ok run69 Try.func69 Try.ntmps69 rfl (by decide +kernel) (by decide +kernel) (by decide +kernel) (show 2≤191 by decide) (show 2<4095 by decide) s0 β
  (vals:=[ptrTo p.b p.o,ptrTo p1.b p1.o]) (fun s hs=>⟨⟨rfl,show 0<8 by decide⟩,⟨rfl,show 4<8 by decide⟩,trivial⟩) ?_ ?_ ?_ ?_ (fun _ _ _ i b h=>by cases h) ?_
 ·intro s hs
  have s0':=hs 0 (by decide)
  have s1':=hs 1 (by decide)
  have s2':=hs 2 (by decide)
  exact ⟨by decide,pt_row (p:=p) rfl rfl rfl rfl hc (by decide),by decide,a4_row rfl r1,by decide,a4_row rfl r2,by decide,a4_row rfl r3,
   by decide,pt_row (p:=p1) rfl rfl rfl rfl hc1 (by decide),by decide,limb_row rfl v1 s0' v4,by decide,limb_row rfl v2 s1' v5,by decide,limb_row rfl v3 s2' v6,trivial⟩
 ·intro r l hl hr
  have hm:=List.elem_iff.1 hr
  simp only [List.mem_cons,List.not_mem_nil,or_false] at hm
  rcases hm with rfl | rfl | rfl <;> cases hl
  ·exact any4_frz rfl r1
  ·exact any4_frz rfl r2
  ·exact any4_frz rfl r3
 ·intro r _
  show (if r<4 then ptPlace p r else ptPlace p1 (r - 4)).1<_
  split
  ·exact ptPlace_lt hc l1 l2 l3 _
  ·exact ptPlace_lt hc1 m1 m2 m3 _
 ·intro r q _ _ hs
  exact sp0_apart hap (β:=β) rfl rfl rfl rfl hs
 ·intro s hs hH st' β' a' w' v hv _ hag hr hbe
  have s0':s 0=x1:=hs 0 (by decide)
  have s1':s 1=y1:=hs 1 (by decide)
  have s2':s 2=z1:=hs 2 (by decide)
  have hin:∀ i,i<3→s i<pq:=by
   intro i hi
   have:i=0∨i=1∨i=2:=by omega
   rcases this with rfl | rfl | rfl
   ·rw [s0']; exact v4
   ·rw [s1']; exact v5
   ·rw [s2']; exact v6
  obtain ⟨f1,f2,f3⟩:=law69 hH hin
  rw [s0',s1',s2'] at f1 f2
  rw [s1',s2'] at f3
  have lt:=lt69 hH
  have g1:=sx_eq x1 y1 z1 x1 y1 z1 lt.1 f1
  have g2:=sy_eq x1 y1 z1 x1 y1 z1 lt.2.1 f2
  have g3:=dz_eq y1 z1 lt.2.2 f3
  have hb0:β' 0=(p.b,p.o):=hag 0 (by decide)
  have hv':v=.pointer (some (at_ β' 0 0)):=hv.1
  refine ⟨_,rfl,by rw [hv',at_,hb0]; rfl,?_⟩
  have e:=outPt_apply (s:=s) (w:=w) (i:=42) (j:=38) (k:=45) (p:=p) (β:=β') (hag 1 (by decide)) (hag 2 (by decide)) (hag 3 (by decide))
  have hbe':Below w.heap.size (applyOut s β' w (outPt 42 38 45)) w':=hbe
  rw [e,g1,g2,g3] at hbe'
  exact hbe'
end P224
/- Sum and double of points, as calls that the executor knows. -/
namespace P224
open Go Go.RowKit Go.Proofs
set_option maxRecDepth 100000
set_option linter.unusedVariables false
structure PtS where
 rx:Nat
 ox:Nat
 ry:Nat
 oy:Nat
 rz:Nat
 oz:Nat
def ptAt (m:List (Nat × List A0)) (r o:Nat):Option PtS :=
 match cellsAt m r o 3 with
 | some [.ptr rx ox,.ptr ry oy,.ptr rz oz]=>some ⟨rx,ox,ry,oy,rz,oz⟩
 | _=>none
def ptNum (m:List (Nat × List A0)) (p:PtS):Option (Nat × Nat × Nat) :=
 match elemAt m p.rx p.ox,elemAt m p.ry p.oy,elemAt m p.rz p.oz with
 | some i,some j,some k=>some (i,j,k)
 | _,_,_=>none
def apart2 (F:Fix) (nr r q:Nat):Bool:=decide (r≠q) && decide (r<nr) && decide (q<nr) && (decide (F.nold≤r) || decide (F.nold≤q) || F.sep r q)
def ptApart (F:Fix) (nr r:Nat) (p:PtS):Bool:=apart2 F nr r p.rx && apart2 F nr r p.ry && apart2 F nr r p.rz && apart2 F nr p.rx p.ry && apart2 F nr p.rx p.rz && apart2 F nr p.ry p.rz
def ptWrite (F:Fix) (st:St) (r:Nat) (p:PtS) (x y z:Ex):Option St :=
 bif ptApart F st.nr r p then
  match write F { st with nx:=st.nx+3,exs:=z :: y :: x :: st.exs } p.rx p.ox (limbs st.nx),write F { st with nx:=st.nx+3,exs:=z :: y :: x :: st.exs } p.ry p.oy (limbs (st.nx+1)),write F { st with nx:=st.nx+3,exs:=z :: y :: x :: st.exs } p.rz p.oz (limbs (st.nx+2)) with
  | some s1,some _,some _=>match write F s1 p.ry p.oy (limbs (st.nx+1)) with
   | some s2=>write F s2 p.rz p.oz (limbs (st.nx+2))
   | none=>none
  | _,_,_=>none
 else none
section
variable {s:Nums} {β:Places} {F:Fix} {w0:World} {st:St} {a:Act} {w:World}
def ptR (β:Places) (r o:Nat) (p:PtS):PtR:=⟨(β r).1,(β r).2+o,(β p.rx).1,(β p.rx).2+p.ox,(β p.ry).1,(β p.ry).2+p.oy,(β p.rz).1,(β p.rz).2+p.oz⟩
theorem ptAt_rep (h:Rel F s β w0 st a w) {r o:Nat} {p:PtS} (hp:ptAt st.mem r o=some p):(ptR β r o p).cells w:=by
 unfold ptAt at hp
 split at hp
 ·rename_i rx ox ry oy rz oz hc
  cases hp
  obtain ⟨k,hk,hlen,_,hj⟩:=cellsAt_ok (nr:=0) hc
  obtain ⟨_,hcl⟩:=h.mem r k hk
  have get:∀ j,j<3→∀ q u,[A0.ptr rx ox,.ptr ry oy,.ptr rz oz][j]?=some (.ptr q u)→w.cell? ⟨(β r).1,(β r).2+o+j,none⟩=some (ptrTo (β q).1 ((β q).2+u)):=fun j hj3 q u hx=>by
   obtain ⟨v,h1,h2⟩:=hcl (o+j) _ (by rw [← hj j hj3]; exact hx)
   rw [h2.1,at_,← Nat.add_assoc] at h1
   exact h1
  exact ⟨get 0 (by decide) _ _ rfl,get 1 (by decide) _ _ rfl,get 2 (by decide) _ _ rfl⟩
 ·cases hp
theorem ptNum_rep (h:Rel F s β w0 st a w) (r o:Nat) {p:PtS} {i j k:Nat} (hp:ptNum st.mem p=some (i,j,k)):(ptR β r o p).val w (s i) (s j) (s k):=by
 unfold ptNum at hp
 split at hp
 ·rename_i i' j' k' h1 h2 h3
  cases hp
  obtain ⟨a1,b1⟩:=elemAt_rep h h1
  obtain ⟨a2,b2⟩:=elemAt_rep h h2
  obtain ⟨a3,b3⟩:=elemAt_rep h h3
  exact ⟨a1,a2,a3,b1,b2,b3⟩
 ·cases hp
theorem apart2_rep (h:Rel F s β w0 st a w) {r q:Nat} (hp:apart2 F st.nr r q=true):(β r).1≠(β q).1:=by
 simp only [apart2,Bool.and_eq_true,Bool.or_eq_true,decide_eq_true_eq] at hp
 obtain ⟨⟨⟨h1,h2⟩,h3⟩,h4⟩:=hp
 by_cases hr:F.nold≤r
 ·by_cases hq:F.nold≤q
  ·exact h.dist r q hr hq h2 h3 h1
  ·have a1:=(h.fresh r hr h2).1
   have a2:=h.old q (by omega)
   omega
 ·by_cases hq:F.nold≤q
  ·have a1:=(h.fresh q hq h3).1
   have a2:=h.old r (by omega)
   omega
  ·rcases h4 with (h4 | h4) | h4
   ·exact absurd h4 hr
   ·exact absurd h4 hq
   ·exact h.sep r q (by omega) (by omega) h4
theorem ptApart_rep (h:Rel F s β w0 st a w) {r o:Nat} {p:PtS} (hp:ptApart F st.nr r p=true):(ptR β r o p).apart:=by
 simp only [ptApart,Bool.and_eq_true] at hp
 obtain ⟨⟨⟨⟨⟨h1,h2⟩,h3⟩,h4⟩,h5⟩,h6⟩:=hp
 exact ⟨apart2_rep h h1,apart2_rep h h2,apart2_rep h h3,apart2_rep h h4,apart2_rep h h5,apart2_rep h h6⟩
theorem ptWrite_nr {st st':St} {r:Nat} {p:PtS} {x y z:Ex} (h:ptWrite F st r p x y z=some st'):st'.nr=st.nr∧st'.nx=st.nx+3∧st'.exs=z :: y :: x :: st.exs:=by
 unfold ptWrite at h
 obtain ⟨_,h⟩:=bif_some h
 split at h
 ·rename_i s1 _ _ h1 _ _
  split at h
  ·rename_i s2 h2
   obtain ⟨a1,a2,a3,_⟩:=write_nr h1
   obtain ⟨b1,b2,b3,_⟩:=write_nr h2
   obtain ⟨c1,c2,c3,_⟩:=write_nr h
   exact ⟨by rw [c1,b1,a1],by rw [c2,b2,a2],by rw [c3,b3,a3]⟩
  ·cases h
 ·cases h
theorem ptWrite_rel (h:Rel F s β w0 st a w) {st':St} {r o:Nat} {p:PtS} {x y z:Ex} (hw:ptWrite F st r p x y z=some st') :
  (ptR β r o p).apart∧(ptR β r o p).room w∧(s st.nx<pq→s (st.nx+1)<pq→s (st.nx+2)<pq→∀ w',Below w.heap.size ((ptR β r o p).set w (s st.nx) (s (st.nx+1)) (s (st.nx+2))) w'→Rel F s β w0 st' a w'):=by
 unfold ptWrite at hw
 obtain ⟨hap,hw⟩:=bif_some hw
 split at hw
 ·rename_i s1 s2' s3' h1 h2' h3'
  split at hw
  ·rename_i s2 h2
   have h':=h.nums (st.nx+3) (z :: y :: x :: st.exs)
   obtain ⟨q1,r1⟩:=room_of h' h1 rfl
   obtain ⟨q2,r2⟩:=room_of h' h2' rfl
   obtain ⟨q3,r3⟩:=room_of h' h3' rfl
   refine ⟨ptApart_rep h hap,⟨⟨r1,r2,r3⟩,h.block_lt q1,h.block_lt q2,h.block_lt q3⟩,fun l1 l2 l3 w' hb=>?_⟩
   obtain ⟨n1,_⟩:=write_nr h1
   obtain ⟨n2,_⟩:=write_nr h2
   have k1:=h'.wrote h1 (w1:=w.setCells (β p.rx).1 ((β p.rx).2+p.ox) (words (s st.nx))) (Below.refl _ _) (limbs_rep l1)
   have k2:=k1.wrote h2 (w1:=(w.setCells (β p.rx).1 ((β p.rx).2+p.ox) (words (s st.nx))).setCells (β p.ry).1 ((β p.ry).2+p.oy) (words (s (st.nx+1)))) (Below.refl _ _) (limbs_rep l2)
   refine k2.wrote hw ?_ (limbs_rep l3)
   have e:((w.setCells (β p.rx).1 ((β p.rx).2+p.ox) (words (s st.nx))).setCells (β p.ry).1 ((β p.ry).2+p.oy) (words (s (st.nx+1)))).heap.size=w.heap.size:=by
    rw [setCells_size,setCells_size]
   rw [e]
   exact hb
  ·cases hw
 ·cases hw
end
def x74:X:=fun F st args=>match args with
 | [.one (.ptr r o),.one (.ptr r1 o1),.one (.ptr r2 o2)]=>match ptAt st.mem r o,ptAt st.mem r1 o1,ptAt st.mem r2 o2 with
  | some p,some p1,some p2=>match ptNum st.mem p1,ptNum st.mem p2 with
   | some (x1,y1,z1),some (x2,y2,z2) =>
    match ptWrite F st r p (.op 15 [.v x1,.v y1,.v z1,.v x2,.v y2,.v z2]) (.op 16 [.v x1,.v y1,.v z1,.v x2,.v y2,.v z2]) (.op 17 [.v x1,.v y1,.v z1,.v x2,.v y2,.v z2]) with
    | some st'=>some (.one (.ptr r o),st')
    | none=>none
   | _,_=>none
  | _,_,_=>none
 | _=>none
theorem sxN_lt (x1 y1 z1 x2 y2 z2:Nat):sxN pq bq x1 y1 z1 x2 y2 z2<pq:=Nat.mod_lt _ pq_pos
theorem syN_lt (x1 y1 z1 x2 y2 z2:Nat):syN pq bq x1 y1 z1 x2 y2 z2<pq:=Nat.mod_lt _ pq_pos
theorem szN_lt (x1 y1 z1 x2 y2 z2:Nat):szN pq bq x1 y1 z1 x2 y2 z2<pq:=Nat.mod_lt _ pq_pos
theorem x74_ok:XOk Try.prog 74 x74:=by
 refine ⟨fun {F st st' args av} h=>?_,fun {s β F w0 st st' a w args vs av} hr h hargs hH=>?_⟩
 ·unfold x74 at h
  split at h
  ·split at h
   ·split at h
    ·split at h
     ·rename_i hw
      cases h
      obtain ⟨a1,a2,a3⟩:=ptWrite_nr hw
      exact ⟨⟨[_,_,_],a3,a2⟩,by rw [a1]; exact Nat.le_refl _⟩
     ·cases h
    ·cases h
   ·cases h
  ·cases h
 ·unfold x74 at h
  split at h
  ·rename_i r o r1 o1 r2 o2
   split at h
   ·rename_i p p1 p2 hp hp1 hp2
    split at h
    ·rename_i x1 y1 z1 x2 y2 z2 hn1 hn2
     split at h
     ·rename_i st1 hw
      cases h
      obtain ⟨u,v,t,rfl,hu,hv,ht⟩:=avs3 hargs
      obtain ⟨rfl,hrn⟩:=hu
      obtain ⟨rfl,_⟩:=hv
      obtain ⟨rfl,_⟩:=ht
      obtain ⟨b1,b2,b3⟩:=ptWrite_nr hw
      rw [b2,b3] at hH
      obtain ⟨e3,e2,e1,_⟩:=hH
      have e1':s st.nx=sxN pq bq (s x1) (s y1) (s z1) (s x2) (s y2) (s z2):=e1
      have e2':s (st.nx+1)=syN pq bq (s x1) (s y1) (s z1) (s x2) (s y2) (s z2):=e2
      have e3':s (st.nx+2)=szN pq bq (s x1) (s y1) (s z1) (s x2) (s y2) (s z2):=e3
      obtain ⟨k1,k2,k3⟩:=ptWrite_rel (o:=o) hr hw
      have hm:=meets74 w (ptR β r o p) (ptR β r1 o1 p1) (ptR β r2 o2 p2) _ _ _ _ _ _ (ptAt_rep hr hp) k2 k1 (ptAt_rep hr hp1) (ptNum_rep hr r1 o1 hn1) (ptAt_rep hr hp2) (ptNum_rep hr r2 o2 hn2)
      intro o' a' next Q hn
      refine hm o' a' next Q fun v' w' ⟨hv',hb⟩=>hn _ _ ?_
      rw [← e1',← e2',← e3'] at hb
      refine ⟨β,Agree.refl _ _,⟨hv',by rw [b1]; exact hrn⟩,k3 ?_ ?_ ?_ w' hb⟩
      ·rw [e1']; exact sxN_lt _ _ _ _ _ _
      ·rw [e2']; exact syN_lt _ _ _ _ _ _
      ·rw [e3']; exact szN_lt _ _ _ _ _ _
     ·cases h
    ·cases h
   ·cases h
  ·cases h
def x69:X:=fun F st args=>match args with
 | [.one (.ptr r o),.one (.ptr r1 o1)]=>match ptAt st.mem r o,ptAt st.mem r1 o1 with
  | some p,some p1=>match ptNum st.mem p1 with
   | some (x1,y1,z1) =>
    match ptWrite F st r p (.op 15 [.v x1,.v y1,.v z1,.v x1,.v y1,.v z1]) (.op 16 [.v x1,.v y1,.v z1,.v x1,.v y1,.v z1]) (.op 18 [.v y1,.v z1]) with
    | some st'=>some (.one (.ptr r o),st')
    | none=>none
   | _=>none
  | _,_=>none
 | _=>none
theorem x69_ok:XOk Try.prog 69 x69:=by
 refine ⟨fun {F st st' args av} h=>?_,fun {s β F w0 st st' a w args vs av} hr h hargs hH=>?_⟩
 ·unfold x69 at h
  split at h
  ·split at h
   ·split at h
    ·split at h
     ·rename_i hw
      cases h
      obtain ⟨a1,a2,a3⟩:=ptWrite_nr hw
      exact ⟨⟨[_,_,_],a3,a2⟩,by rw [a1]; exact Nat.le_refl _⟩
     ·cases h
    ·cases h
   ·cases h
  ·cases h
 ·unfold x69 at h
  split at h
  ·rename_i r o r1 o1
   split at h
   ·rename_i p p1 hp hp1
    split at h
    ·rename_i x1 y1 z1 hn1
     split at h
     ·rename_i st1 hw
      cases h
      obtain ⟨u,v,rfl,hu,hv⟩:=avs2 hargs
      obtain ⟨rfl,hrn⟩:=hu
      obtain ⟨rfl,_⟩:=hv
      obtain ⟨b1,b2,b3⟩:=ptWrite_nr hw
      rw [b2,b3] at hH
      obtain ⟨e3,e2,e1,_⟩:=hH
      have e1':s st.nx=sxN pq bq (s x1) (s y1) (s z1) (s x1) (s y1) (s z1):=e1
      have e2':s (st.nx+1)=syN pq bq (s x1) (s y1) (s z1) (s x1) (s y1) (s z1):=e2
      have e3':s (st.nx+2)=8*(s y1*s y1*s y1)*s z1 % pq:=e3
      obtain ⟨k1,k2,k3⟩:=ptWrite_rel (o:=o) hr hw
      have hm:=meets69 w (ptR β r o p) (ptR β r1 o1 p1) _ _ _ (ptAt_rep hr hp) k2 k1 (ptAt_rep hr hp1) (ptNum_rep hr r1 o1 hn1)
      intro o' a' next Q hn
      refine hm o' a' next Q fun v' w' ⟨hv',hb⟩=>hn _ _ ?_
      rw [← e1',← e2',← e3'] at hb
      refine ⟨β,Agree.refl _ _,⟨hv',by rw [b1]; exact hrn⟩,k3 ?_ ?_ ?_ w' hb⟩
      ·rw [e1']; exact sxN_lt _ _ _ _ _ _
      ·rw [e2']; exact syN_lt _ _ _ _ _ _
      ·rw [e3']; exact Nat.mod_lt _ pq_pos
     ·cases h
    ·cases h
   ·cases h
  ·cases h
end P224
