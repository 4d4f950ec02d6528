/- The reference's product of elements. -/
import Derived.Test.YtccmmkgiamcgeaaGS1
set_option linter.all false
namespace P224
open Go Go.RowKit Go.Proofs
set_option maxRecDepth 100000
set_option exponentiation.threshold 2000
set_option linter.unusedVariables false
theorem mac {a b w o A Bb m Wv t1 t d e o':Nat} (ha:a<4294967296) (hb:b<4294967296) (hw:w<4294967296) (ho:o<4294967296) (eA:A=a % 2 ^ 64) (eB:Bb=b % 2 ^ 64) (hm:m=A*Bb % 2 ^ 64) (eW:Wv=w % 2 ^ 64)
  (h1:t1=(Wv+m) % 2 ^ 64) (h2:t=(o+t1) % 2 ^ 64) (hd:d=t &&& 4294967295) (he:e=d % 2 ^ 64) (ho':o'=t / 2 ^ 32):e+4294967296*o'=o+(w+a*b)∧e<4294967296∧o'<4294967296:=by
 rw [Nat.mod_eq_of_lt (by omega)] at eA eB eW
 subst eA eB eW
 have hp:A*Bb≤4294967295*4294967295:=Nat.mul_le_mul (by omega) (by omega)
 generalize A*Bb=p at *
 rw [and_low] at hd
 omega
theorem stepR {e o o' E q Q:Nat} (h:e+4294967296*o'=o+q) (k:E=o'+Q):e+4294967296*E=o+(q+4294967296*Q):=by omega
theorem row7 {a b0 b1 b2 b3 b4 b5 b6 w0 w1 w2 w3 w4 w5 w6 e0 e1 e2 e3 e4 e5 e6 o1 o2 o3 o4 o5 o6 o7:Nat}
  (h0:e0+4294967296*o1=0+(w0+a*b0)) (h1:e1+4294967296*o2=o1+(w1+a*b1)) (h2:e2+4294967296*o3=o2+(w2+a*b2)) (h3:e3+4294967296*o4=o3+(w3+a*b3))
  (h4:e4+4294967296*o5=o4+(w4+a*b4)) (h5:e5+4294967296*o6=o5+(w5+a*b5)) (h6:e6+4294967296*o7=o6+(w6+a*b6)) :
  e0+4294967296*(e1+4294967296*(e2+4294967296*(e3+4294967296*(e4+4294967296*(e5+4294967296*(e6+4294967296*o7)))))) =
   (w0+4294967296*(w1+4294967296*(w2+4294967296*(w3+4294967296*(w4+4294967296*(w5+4294967296*w6))))))+a*(b0+4294967296*(b1+4294967296*(b2+4294967296*(b3+4294967296*(b4+4294967296*(b5+4294967296*b6)))))):=by
 have e:a*(b0+4294967296*(b1+4294967296*(b2+4294967296*(b3+4294967296*(b4+4294967296*(b5+4294967296*b6))))))=a*b0+4294967296*(a*b1+4294967296*(a*b2+4294967296*(a*b3+4294967296*(a*b4+4294967296*(a*b5+4294967296*(a*b6)))))):=by
  simp only [Nat.mul_add,Nat.mul_left_comm a 4294967296]
 rw [e,stepR h0 (stepR h1 (stepR h2 (stepR h3 (stepR h4 (stepR h5 h6)))))]
 clear h0 h1 h2 h3 h4 h5 h6 e
 omega
theorem rows7 {a0 a1 a2 a3 a4 a5 a6 y P0 P1 P2 P3 P4 P5 P6 N1 N2 N3 N4 N5 N6 N7:Nat} (h0:P0+4294967296*N1=0+a0*y) (h1:P1+4294967296*N2=N1+a1*y) (h2:P2+4294967296*N3=N2+a2*y) (h3:P3+4294967296*N4=N3+a3*y)
  (h4:P4+4294967296*N5=N4+a4*y) (h5:P5+4294967296*N6=N5+a5*y) (h6:P6+4294967296*N7=N6+a6*y) :
  P0+4294967296*(P1+4294967296*(P2+4294967296*(P3+4294967296*(P4+4294967296*(P5+4294967296*(P6+4294967296*N7)))))) =
   (a0+4294967296*(a1+4294967296*(a2+4294967296*(a3+4294967296*(a4+4294967296*(a5+4294967296*a6))))))*y:=by
 have e:(a0+4294967296*(a1+4294967296*(a2+4294967296*(a3+4294967296*(a4+4294967296*(a5+4294967296*a6))))))*y=a0*y+4294967296*(a1*y+4294967296*(a2*y+4294967296*(a3*y+4294967296*(a4*y+4294967296*(a5*y+4294967296*(a6*y)))))):=by
  simp only [Nat.add_mul,Nat.mul_assoc]
 rw [e,stepR h0 (stepR h1 (stepR h2 (stepR h3 (stepR h4 (stepR h5 h6)))))]
 omega
theorem sum_DN {V:Nat} (hV:V<2 ^ 224):V=D V 0+4294967296*(D V 1+4294967296*(D V 2+4294967296*(D V 3+4294967296*(D V 4+4294967296*(D V 5+4294967296*D V 6))))):=by
 have:=sum_D hV
 omega
theorem dig_sum:∀ (L:List Nat) (k:Nat),(∀ x ∈ L,x<4294967296)→D (sum32 L) k=L.getD k 0
 | [],k,_=>by simp [D,sum32]
 | d :: L,0,h=>by
  have:=h d List.mem_cons_self
  show sum32 (d :: L) / 2 ^ (32*0) % 2 ^ 32=d
  rw [Nat.mul_zero,Nat.pow_zero,Nat.div_one,sum32]
  omega
 | d :: L,k+1,h=>by
  have h0:=h d List.mem_cons_self
  have ih:=dig_sum L k fun x hx=>h x (List.mem_cons_of_mem _ hx)
  have e:sum32 (d :: L) / 2 ^ 32=sum32 L:=by rw [sum32]; omega
  show sum32 (d :: L) / 2 ^ (32*(k+1)) % 2 ^ 32=L.getD k 0
  rw [← ih,D,Nat.mul_succ,Nat.add_comm,Nat.pow_add,← Nat.div_div_eq_div_mul,e]
def foldS (P:Nat):Int :=
 ((D P 0:Int) - D P 7 - D P 11)+4294967296*(((D P 1:Int) - D P 8 - D P 12)+4294967296*(((D P 2:Int) - D P 9 - D P 13)+4294967296*(((D P 3:Int) - D P 10+D P 7+D P 11)+4294967296*(((D P 4:Int) - D P 11+D P 8+D P 12)
  + 4294967296*(((D P 5:Int) - D P 12+D P 9+D P 13)+4294967296*((D P 6:Int) - D P 13+D P 10))))))
theorem foldS_sum (P:Nat):foldS P=(sum32 [D P 0,D P 1,D P 2,D P 3,D P 4,D P 5,D P 6,D P 7,D P 8,D P 9,D P 10,D P 11,D P 12,D P 13]:Int) -
  pq*((D P 7+D P 11)+4294967296*((D P 8+D P 12)+4294967296*((D P 9+D P 13)+4294967296*(D P 10+4294967296*(D P 11+4294967296*(D P 12+4294967296*D P 13)))))):=by
 have e:sum32 [D P 0,D P 1,D P 2,D P 3,D P 4,D P 5,D P 6,D P 7,D P 8,D P 9,D P 10,D P 11,D P 12,D P 13]=D P 0+4294967296*(D P 1+4294967296*(D P 2+4294967296*(D P 3+4294967296*(D P 4+4294967296*(D P 5+4294967296*(D P 6 +
  4294967296*(D P 7+4294967296*(D P 8+4294967296*(D P 9+4294967296*(D P 10+4294967296*(D P 11+4294967296*(D P 12+4294967296*(D P 13+4294967296*0))))))))))))):=rfl
 rw [e,pq_num]
 unfold foldS
 omega
theorem foldS_bound (P:Nat):-2 ^ 230≤foldS P∧foldS P≤2 ^ 230:=by
 have l0:=D_lt P 0
 have l1:=D_lt P 1
 have l2:=D_lt P 2
 have l3:=D_lt P 3
 have l4:=D_lt P 4
 have l5:=D_lt P 5
 have l6:=D_lt P 6
 have l7:=D_lt P 7
 have l8:=D_lt P 8
 have l9:=D_lt P 9
 have l10:=D_lt P 10
 have l11:=D_lt P 11
 have l12:=D_lt P 12
 have l13:=D_lt P 13
 unfold foldS
 omega
theorem fold_pos {t u m r:Nat} {T U:Int} (ht:t<2 ^ 64) (hu:u<2 ^ 64) (eT:sgn t=T) (eU:sgn u=U) (b1:-1099511627776≤T∧T≤1099511627776) (b2:-1099511627776≤U∧U≤1099511627776) (hm:m=t*1 % 2 ^ 64) (hr:r=(u+m) % 2 ^ 64):sgn r=U+T∧r<2 ^ 64:=by
 have e:m=t:=by rw [hm,Nat.mul_one,Nat.mod_eq_of_lt ht]
 subst e
 have:=sgn_add hu ht (by omega) (by omega)
 rw [← hr,eT,eU] at this
 exact ⟨this,by rw [hr]; exact Nat.mod_lt _ (by decide)⟩
theorem fold_neg {t u m r:Nat} {T U:Int} (ht:t<2 ^ 64) (hu:u<2 ^ 64) (eT:sgn t=T) (eU:sgn u=U) (b1:-1099511627776≤T∧T≤1099511627776) (b2:-1099511627776≤U∧U≤1099511627776) (hm:m=t*18446744073709551615 % 2 ^ 64) (hr:r=(u+m) % 2 ^ 64):sgn r=U - T∧r<2 ^ 64:=by
 have hml:m<2 ^ 64:=by rw [hm]; exact Nat.mod_lt _ (by decide)
 have e:sgn m=-T:=by
  have m1:=sgn_mod t
  have m2:=sgn_mod m
  have r2:=sgn_range hml
  rw [eT] at m1
  omega
 have:=sgn_add hu hml (by omega) (by omega)
 rw [← hr,e,eU] at this
 exact ⟨by omega,by rw [hr]; exact Nat.mod_lt _ (by decide)⟩
def W59:List Wd:=[(.v 470),(.v 466),(.v 462),(.v 468),(.v 464),(.v 460),(.v 456)]
def row0Ex (n:Nat):List Ex:=[
.low 64 (.v (n+55)),
.shr 32 (.v (n+52)),
.low 64 (.v (n+53)),
.and (.v (n+52)) (.c 4294967295),
.add 64 (.v (n+47)) (.v (n+51)),
.add 64 (.c 0) (.v (n+50)),
.mul 64 (.v (n+48)) (.v (n+49)),
.low 64 (.w 1 6),
.low 64 (.w 0 0),
.shr 32 (.v (n+44)),
.low 64 (.v (n+45)),
.and (.v (n+44)) (.c 4294967295),
.add 64 (.v (n+39)) (.v (n+43)),
.add 64 (.c 0) (.v (n+42)),
.mul 64 (.v (n+40)) (.v (n+41)),
.low 64 (.w 1 5),
.low 64 (.w 0 0),
.shr 32 (.v (n+36)),
.low 64 (.v (n+37)),
.and (.v (n+36)) (.c 4294967295),
.add 64 (.v (n+31)) (.v (n+35)),
.add 64 (.c 0) (.v (n+34)),
.mul 64 (.v (n+32)) (.v (n+33)),
.low 64 (.w 1 4),
.low 64 (.w 0 0),
.shr 32 (.v (n+28)),
.low 64 (.v (n+29)),
.and (.v (n+28)) (.c 4294967295),
.add 64 (.v (n+23)) (.v (n+27)),
.add 64 (.c 0) (.v (n+26)),
.mul 64 (.v (n+24)) (.v (n+25)),
.low 64 (.w 1 3),
.low 64 (.w 0 0),
.shr 32 (.v (n+20)),
.low 64 (.v (n+21)),
.and (.v (n+20)) (.c 4294967295),
.add 64 (.v (n+15)) (.v (n+19)),
.add 64 (.c 0) (.v (n+18)),
.mul 64 (.v (n+16)) (.v (n+17)),
.low 64 (.w 1 2),
.low 64 (.w 0 0),
.shr 32 (.v (n+12)),
.low 64 (.v (n+13)),
.and (.v (n+12)) (.c 4294967295),
.add 64 (.v (n+7)) (.v (n+11)),
.add 64 (.c 0) (.v (n+10)),
.mul 64 (.v (n+8)) (.v (n+9)),
.low 64 (.w 1 1),
.low 64 (.w 0 0),
.shr 32 (.v (n+4)),
.low 64 (.v (n+5)),
.and (.v (n+4)) (.c 4294967295),
.add 64 (.c 0) (.v (n+3)),
.add 64 (.c 0) (.v (n+2)),
.mul 64 (.v n) (.v (n+1)),
.low 64 (.w 1 0),
.low 64 (.w 0 0)]
theorem row0_law {s:Nums} {x y:Nat} {l:List Ex} (hy:y<2 ^ 224) (h0:s 0=x) (h1:s 1=y) {n:Nat}  (h:Holds s (n+57) (row0Ex n  ++ l)) :
  s (n+6)+4294967296*(s (n+14)+4294967296*(s (n+22)+4294967296*(s (n+30)+4294967296*(s (n+38)+4294967296*(s (n+46)+4294967296*(s (n+54)+4294967296*(s (n+56))))))))=0+D x 0*y∧(s (n+6)<4294967296∧s (n+14)<4294967296∧s (n+22)<4294967296∧s (n+30)<4294967296∧s (n+38)<4294967296∧s (n+46)<4294967296∧s (n+54)<4294967296∧s (n+56)<4294967296)∧Holds s n l:=by
 obtain ⟨e56,e55,e54,e53,e52,e51,e50,e49,e48,e47,e46,e45,e44,e43,e42,e41,e40,e39,e38,e37,e36,e35,e34,e33,e32,e31,e30,e29,e28,e27,e26,e25,e24,e23,e22,e21,e20,e19,e18,e17,e16,e15,e14,e13,e12,e11,e10,e9,e8,e7,e6,e5,e4,e3,e2,e1,e0,hl⟩:=h
 have e0:s n=D x 0 % 2 ^ 64:=by rw [← h0]; exact e0
 have e1:s (n+1)=D y 0 % 2 ^ 64:=by rw [← h1]; exact e1
 have e2:s (n+2)=s n*s (n+1) % 2 ^ 64:=e2
 have e3:s (n+3)=(0+s (n+2)) % 2 ^ 64:=e3
 have e4:s (n+4)=(0+s (n+3)) % 2 ^ 64:=e4
 have e5:s (n+5)=s (n+4) &&& 4294967295:=e5
 have e6:s (n+6)=s (n+5) % 2 ^ 64:=e6
 have e7:s (n+7)=s (n+4) / 2 ^ 32:=e7
 have e8:s (n+8)=D x 0 % 2 ^ 64:=by rw [← h0]; exact e8
 have e9:s (n+9)=D y 1 % 2 ^ 64:=by rw [← h1]; exact e9
 have e10:s (n+10)=s (n+8)*s (n+9) % 2 ^ 64:=e10
 have e11:s (n+11)=(0+s (n+10)) % 2 ^ 64:=e11
 have e12:s (n+12)=(s (n+7)+s (n+11)) % 2 ^ 64:=e12
 have e13:s (n+13)=s (n+12) &&& 4294967295:=e13
 have e14:s (n+14)=s (n+13) % 2 ^ 64:=e14
 have e15:s (n+15)=s (n+12) / 2 ^ 32:=e15
 have e16:s (n+16)=D x 0 % 2 ^ 64:=by rw [← h0]; exact e16
 have e17:s (n+17)=D y 2 % 2 ^ 64:=by rw [← h1]; exact e17
 have e18:s (n+18)=s (n+16)*s (n+17) % 2 ^ 64:=e18
 have e19:s (n+19)=(0+s (n+18)) % 2 ^ 64:=e19
 have e20:s (n+20)=(s (n+15)+s (n+19)) % 2 ^ 64:=e20
 have e21:s (n+21)=s (n+20) &&& 4294967295:=e21
 have e22:s (n+22)=s (n+21) % 2 ^ 64:=e22
 have e23:s (n+23)=s (n+20) / 2 ^ 32:=e23
 have e24:s (n+24)=D x 0 % 2 ^ 64:=by rw [← h0]; exact e24
 have e25:s (n+25)=D y 3 % 2 ^ 64:=by rw [← h1]; exact e25
 have e26:s (n+26)=s (n+24)*s (n+25) % 2 ^ 64:=e26
 have e27:s (n+27)=(0+s (n+26)) % 2 ^ 64:=e27
 have e28:s (n+28)=(s (n+23)+s (n+27)) % 2 ^ 64:=e28
 have e29:s (n+29)=s (n+28) &&& 4294967295:=e29
 have e30:s (n+30)=s (n+29) % 2 ^ 64:=e30
 have e31:s (n+31)=s (n+28) / 2 ^ 32:=e31
 have e32:s (n+32)=D x 0 % 2 ^ 64:=by rw [← h0]; exact e32
 have e33:s (n+33)=D y 4 % 2 ^ 64:=by rw [← h1]; exact e33
 have e34:s (n+34)=s (n+32)*s (n+33) % 2 ^ 64:=e34
 have e35:s (n+35)=(0+s (n+34)) % 2 ^ 64:=e35
 have e36:s (n+36)=(s (n+31)+s (n+35)) % 2 ^ 64:=e36
 have e37:s (n+37)=s (n+36) &&& 4294967295:=e37
 have e38:s (n+38)=s (n+37) % 2 ^ 64:=e38
 have e39:s (n+39)=s (n+36) / 2 ^ 32:=e39
 have e40:s (n+40)=D x 0 % 2 ^ 64:=by rw [← h0]; exact e40
 have e41:s (n+41)=D y 5 % 2 ^ 64:=by rw [← h1]; exact e41
 have e42:s (n+42)=s (n+40)*s (n+41) % 2 ^ 64:=e42
 have e43:s (n+43)=(0+s (n+42)) % 2 ^ 64:=e43
 have e44:s (n+44)=(s (n+39)+s (n+43)) % 2 ^ 64:=e44
 have e45:s (n+45)=s (n+44) &&& 4294967295:=e45
 have e46:s (n+46)=s (n+45) % 2 ^ 64:=e46
 have e47:s (n+47)=s (n+44) / 2 ^ 32:=e47
 have e48:s (n+48)=D x 0 % 2 ^ 64:=by rw [← h0]; exact e48
 have e49:s (n+49)=D y 6 % 2 ^ 64:=by rw [← h1]; exact e49
 have e50:s (n+50)=s (n+48)*s (n+49) % 2 ^ 64:=e50
 have e51:s (n+51)=(0+s (n+50)) % 2 ^ 64:=e51
 have e52:s (n+52)=(s (n+47)+s (n+51)) % 2 ^ 64:=e52
 have e53:s (n+53)=s (n+52) &&& 4294967295:=e53
 have e54:s (n+54)=s (n+53) % 2 ^ 64:=e54
 have e55:s (n+55)=s (n+52) / 2 ^ 32:=e55
 have e56:s (n+56)=s (n+55) % 2 ^ 64:=e56
 obtain ⟨q0,l0,k0⟩:=mac (D_lt x 0) (D_lt y 0) (show 0<4294967296 by decide) (show 0<4294967296 by decide) e0 e1 e2 (show 0=0 % 2 ^ 64 from rfl) e3 e4 e5 e6 e7
 obtain ⟨q1,l1,k1⟩:=mac (D_lt x 0) (D_lt y 1) (show 0<4294967296 by decide) k0 e8 e9 e10 (show 0=0 % 2 ^ 64 from rfl) e11 e12 e13 e14 e15
 obtain ⟨q2,l2,k2⟩:=mac (D_lt x 0) (D_lt y 2) (show 0<4294967296 by decide) k1 e16 e17 e18 (show 0=0 % 2 ^ 64 from rfl) e19 e20 e21 e22 e23
 obtain ⟨q3,l3,k3⟩:=mac (D_lt x 0) (D_lt y 3) (show 0<4294967296 by decide) k2 e24 e25 e26 (show 0=0 % 2 ^ 64 from rfl) e27 e28 e29 e30 e31
 obtain ⟨q4,l4,k4⟩:=mac (D_lt x 0) (D_lt y 4) (show 0<4294967296 by decide) k3 e32 e33 e34 (show 0=0 % 2 ^ 64 from rfl) e35 e36 e37 e38 e39
 obtain ⟨q5,l5,k5⟩:=mac (D_lt x 0) (D_lt y 5) (show 0<4294967296 by decide) k4 e40 e41 e42 (show 0=0 % 2 ^ 64 from rfl) e43 e44 e45 e46 e47
 obtain ⟨q6,l6,k6⟩:=mac (D_lt x 0) (D_lt y 6) (show 0<4294967296 by decide) k5 e48 e49 e50 (show 0=0 % 2 ^ 64 from rfl) e51 e52 e53 e54 e55
 have m:s (n+56)=s (n+55):=by rw [e56,Nat.mod_eq_of_lt (by omega)]
 have R:=row7 q0 q1 q2 q3 q4 q5 q6
 rw [← m,← sum_DN hy] at R
 have Z0:(0+4294967296*(0+4294967296*(0+4294967296*(0+4294967296*(0+4294967296*(0+4294967296*0))))):Nat)=0:=rfl
 rw [Z0] at R
 exact ⟨R,⟨l0,l1,l2,l3,l4,l5,l6,by rw [m]; exact k6⟩,hl⟩
def rowIEx (n:Nat) (i w0 w1 w2 w3 w4 w5 w6:Nat):List Ex:=[
.low 64 (.v (n+62)),
.shr 32 (.v (n+59)),
.low 64 (.v (n+60)),
.and (.v (n+59)) (.c 4294967295),
.add 64 (.v (n+53)) (.v (n+58)),
.add 64 (.v (n+54)) (.v (n+57)),
.mul 64 (.v (n+55)) (.v (n+56)),
.low 64 (.w 1 6),
.low 64 (.w 0 i),
.low 64 (.v w6),
.shr 32 (.v (n+50)),
.low 64 (.v (n+51)),
.and (.v (n+50)) (.c 4294967295),
.add 64 (.v (n+44)) (.v (n+49)),
.add 64 (.v (n+45)) (.v (n+48)),
.mul 64 (.v (n+46)) (.v (n+47)),
.low 64 (.w 1 5),
.low 64 (.w 0 i),
.low 64 (.v w5),
.shr 32 (.v (n+41)),
.low 64 (.v (n+42)),
.and (.v (n+41)) (.c 4294967295),
.add 64 (.v (n+35)) (.v (n+40)),
.add 64 (.v (n+36)) (.v (n+39)),
.mul 64 (.v (n+37)) (.v (n+38)),
.low 64 (.w 1 4),
.low 64 (.w 0 i),
.low 64 (.v w4),
.shr 32 (.v (n+32)),
.low 64 (.v (n+33)),
.and (.v (n+32)) (.c 4294967295),
.add 64 (.v (n+26)) (.v (n+31)),
.add 64 (.v (n+27)) (.v (n+30)),
.mul 64 (.v (n+28)) (.v (n+29)),
.low 64 (.w 1 3),
.low 64 (.w 0 i),
.low 64 (.v w3),
.shr 32 (.v (n+23)),
.low 64 (.v (n+24)),
.and (.v (n+23)) (.c 4294967295),
.add 64 (.v (n+17)) (.v (n+22)),
.add 64 (.v (n+18)) (.v (n+21)),
.mul 64 (.v (n+19)) (.v (n+20)),
.low 64 (.w 1 2),
.low 64 (.w 0 i),
.low 64 (.v w2),
.shr 32 (.v (n+14)),
.low 64 (.v (n+15)),
.and (.v (n+14)) (.c 4294967295),
.add 64 (.v (n+8)) (.v (n+13)),
.add 64 (.v (n+9)) (.v (n+12)),
.mul 64 (.v (n+10)) (.v (n+11)),
.low 64 (.w 1 1),
.low 64 (.w 0 i),
.low 64 (.v w1),
.shr 32 (.v (n+5)),
.low 64 (.v (n+6)),
.and (.v (n+5)) (.c 4294967295),
.add 64 (.c 0) (.v (n+4)),
.add 64 (.v n) (.v (n+3)),
.mul 64 (.v (n+1)) (.v (n+2)),
.low 64 (.w 1 0),
.low 64 (.w 0 i),
.low 64 (.v w0)]
theorem rowI_law {s:Nums} {x y:Nat} {l:List Ex} (hy:y<2 ^ 224) (h0:s 0=x) (h1:s 1=y) {n:Nat} {i w0 w1 w2 w3 w4 w5 w6:Nat}  (hw:s w0<4294967296∧s w1<4294967296∧s w2<4294967296∧s w3<4294967296∧s w4<4294967296∧s w5<4294967296∧s w6<4294967296) (h:Holds s (n+64) (rowIEx n i w0 w1 w2 w3 w4 w5 w6 ++ l)) :
  s (n+7)+4294967296*(s (n+16)+4294967296*(s (n+25)+4294967296*(s (n+34)+4294967296*(s (n+43)+4294967296*(s (n+52)+4294967296*(s (n+61)+4294967296*(s (n+63))))))))=(s w0+4294967296*(s w1+4294967296*(s w2+4294967296*(s w3+4294967296*(s w4+4294967296*(s w5+4294967296*(s w6)))))))+D x i*y∧(s (n+7)<4294967296∧s (n+16)<4294967296∧s (n+25)<4294967296∧s (n+34)<4294967296∧s (n+43)<4294967296∧s (n+52)<4294967296∧s (n+61)<4294967296∧s (n+63)<4294967296)∧Holds s n l:=by
 obtain ⟨lw0,lw1,lw2,lw3,lw4,lw5,lw6⟩:=hw
 obtain ⟨e63,e62,e61,e60,e59,e58,e57,e56,e55,e54,e53,e52,e51,e50,e49,e48,e47,e46,e45,e44,e43,e42,e41,e40,e39,e38,e37,e36,e35,e34,e33,e32,e31,e30,e29,e28,e27,e26,e25,e24,e23,e22,e21,e20,e19,e18,e17,e16,e15,e14,e13,e12,e11,e10,e9,e8,e7,e6,e5,e4,e3,e2,e1,e0,hl⟩:=h
 have e0:s n=s w0 % 2 ^ 64:=e0
 have e1:s (n+1)=D x i % 2 ^ 64:=by rw [← h0]; exact e1
 have e2:s (n+2)=D y 0 % 2 ^ 64:=by rw [← h1]; exact e2
 have e3:s (n+3)=s (n+1)*s (n+2) % 2 ^ 64:=e3
 have e4:s (n+4)=(s n+s (n+3)) % 2 ^ 64:=e4
 have e5:s (n+5)=(0+s (n+4)) % 2 ^ 64:=e5
 have e6:s (n+6)=s (n+5) &&& 4294967295:=e6
 have e7:s (n+7)=s (n+6) % 2 ^ 64:=e7
 have e8:s (n+8)=s (n+5) / 2 ^ 32:=e8
 have e9:s (n+9)=s w1 % 2 ^ 64:=e9
 have e10:s (n+10)=D x i % 2 ^ 64:=by rw [← h0]; exact e10
 have e11:s (n+11)=D y 1 % 2 ^ 64:=by rw [← h1]; exact e11
 have e12:s (n+12)=s (n+10)*s (n+11) % 2 ^ 64:=e12
 have e13:s (n+13)=(s (n+9)+s (n+12)) % 2 ^ 64:=e13
 have e14:s (n+14)=(s (n+8)+s (n+13)) % 2 ^ 64:=e14
 have e15:s (n+15)=s (n+14) &&& 4294967295:=e15
 have e16:s (n+16)=s (n+15) % 2 ^ 64:=e16
 have e17:s (n+17)=s (n+14) / 2 ^ 32:=e17
 have e18:s (n+18)=s w2 % 2 ^ 64:=e18
 have e19:s (n+19)=D x i % 2 ^ 64:=by rw [← h0]; exact e19
 have e20:s (n+20)=D y 2 % 2 ^ 64:=by rw [← h1]; exact e20
 have e21:s (n+21)=s (n+19)*s (n+20) % 2 ^ 64:=e21
 have e22:s (n+22)=(s (n+18)+s (n+21)) % 2 ^ 64:=e22
 have e23:s (n+23)=(s (n+17)+s (n+22)) % 2 ^ 64:=e23
 have e24:s (n+24)=s (n+23) &&& 4294967295:=e24
 have e25:s (n+25)=s (n+24) % 2 ^ 64:=e25
 have e26:s (n+26)=s (n+23) / 2 ^ 32:=e26
 have e27:s (n+27)=s w3 % 2 ^ 64:=e27
 have e28:s (n+28)=D x i % 2 ^ 64:=by rw [← h0]; exact e28
 have e29:s (n+29)=D y 3 % 2 ^ 64:=by rw [← h1]; exact e29
 have e30:s (n+30)=s (n+28)*s (n+29) % 2 ^ 64:=e30
 have e31:s (n+31)=(s (n+27)+s (n+30)) % 2 ^ 64:=e31
 have e32:s (n+32)=(s (n+26)+s (n+31)) % 2 ^ 64:=e32
 have e33:s (n+33)=s (n+32) &&& 4294967295:=e33
 have e34:s (n+34)=s (n+33) % 2 ^ 64:=e34
 have e35:s (n+35)=s (n+32) / 2 ^ 32:=e35
 have e36:s (n+36)=s w4 % 2 ^ 64:=e36
 have e37:s (n+37)=D x i % 2 ^ 64:=by rw [← h0]; exact e37
 have e38:s (n+38)=D y 4 % 2 ^ 64:=by rw [← h1]; exact e38
 have e39:s (n+39)=s (n+37)*s (n+38) % 2 ^ 64:=e39
 have e40:s (n+40)=(s (n+36)+s (n+39)) % 2 ^ 64:=e40
 have e41:s (n+41)=(s (n+35)+s (n+40)) % 2 ^ 64:=e41
 have e42:s (n+42)=s (n+41) &&& 4294967295:=e42
 have e43:s (n+43)=s (n+42) % 2 ^ 64:=e43
 have e44:s (n+44)=s (n+41) / 2 ^ 32:=e44
 have e45:s (n+45)=s w5 % 2 ^ 64:=e45
 have e46:s (n+46)=D x i % 2 ^ 64:=by rw [← h0]; exact e46
 have e47:s (n+47)=D y 5 % 2 ^ 64:=by rw [← h1]; exact e47
 have e48:s (n+48)=s (n+46)*s (n+47) % 2 ^ 64:=e48
 have e49:s (n+49)=(s (n+45)+s (n+48)) % 2 ^ 64:=e49
 have e50:s (n+50)=(s (n+44)+s (n+49)) % 2 ^ 64:=e50
 have e51:s (n+51)=s (n+50) &&& 4294967295:=e51
 have e52:s (n+52)=s (n+51) % 2 ^ 64:=e52
 have e53:s (n+53)=s (n+50) / 2 ^ 32:=e53
 have e54:s (n+54)=s w6 % 2 ^ 64:=e54
 have e55:s (n+55)=D x i % 2 ^ 64:=by rw [← h0]; exact e55
 have e56:s (n+56)=D y 6 % 2 ^ 64:=by rw [← h1]; exact e56
 have e57:s (n+57)=s (n+55)*s (n+56) % 2 ^ 64:=e57
 have e58:s (n+58)=(s (n+54)+s (n+57)) % 2 ^ 64:=e58
 have e59:s (n+59)=(s (n+53)+s (n+58)) % 2 ^ 64:=e59
 have e60:s (n+60)=s (n+59) &&& 4294967295:=e60
 have e61:s (n+61)=s (n+60) % 2 ^ 64:=e61
 have e62:s (n+62)=s (n+59) / 2 ^ 32:=e62
 have e63:s (n+63)=s (n+62) % 2 ^ 64:=e63
 obtain ⟨q0,l0,k0⟩:=mac (D_lt x i) (D_lt y 0) lw0 (show 0<4294967296 by decide) e1 e2 e3 e0 e4 e5 e6 e7 e8
 obtain ⟨q1,l1,k1⟩:=mac (D_lt x i) (D_lt y 1) lw1 k0 e10 e11 e12 e9 e13 e14 e15 e16 e17
 obtain ⟨q2,l2,k2⟩:=mac (D_lt x i) (D_lt y 2) lw2 k1 e19 e20 e21 e18 e22 e23 e24 e25 e26
 obtain ⟨q3,l3,k3⟩:=mac (D_lt x i) (D_lt y 3) lw3 k2 e28 e29 e30 e27 e31 e32 e33 e34 e35
 obtain ⟨q4,l4,k4⟩:=mac (D_lt x i) (D_lt y 4) lw4 k3 e37 e38 e39 e36 e40 e41 e42 e43 e44
 obtain ⟨q5,l5,k5⟩:=mac (D_lt x i) (D_lt y 5) lw5 k4 e46 e47 e48 e45 e49 e50 e51 e52 e53
 obtain ⟨q6,l6,k6⟩:=mac (D_lt x i) (D_lt y 6) lw6 k5 e55 e56 e57 e54 e58 e59 e60 e61 e62
 have m:s (n+63)=s (n+62):=by rw [e63,Nat.mod_eq_of_lt (by omega)]
 have R:=row7 q0 q1 q2 q3 q4 q5 q6
 rw [← m,← sum_DN hy] at R
 exact ⟨R,⟨l0,l1,l2,l3,l4,l5,l6,by rw [m]; exact k6⟩,hl⟩
def foldEx:List Ex:=[
.add 64 (.v 8) (.v 469),
.mul 64 (.v 452) (.c 18446744073709551615),
.add 64 (.v 458) (.v 467),
.mul 64 (.v 452) (.c 1),
.add 64 (.v 66) (.v 465),
.mul 64 (.v 448) (.c 18446744073709551615),
.add 64 (.v 454) (.v 463),
.mul 64 (.v 448) (.c 1),
.add 64 (.v 130) (.v 461),
.mul 64 (.v 444) (.c 18446744073709551615),
.add 64 (.v 450) (.v 459),
.mul 64 (.v 444) (.c 1),
.add 64 (.v 194) (.v 457),
.mul 64 (.v 422) (.c 18446744073709551615),
.add 64 (.v 446) (.v 455),
.mul 64 (.v 422) (.c 1),
.add 64 (.v 258) (.v 453),
.mul 64 (.v 431) (.c 18446744073709551615),
.add 64 (.v 395) (.v 451),
.mul 64 (.v 431) (.c 1),
.add 64 (.v 322) (.v 449),
.mul 64 (.v 440) (.c 18446744073709551615),
.add 64 (.v 404) (.v 447),
.mul 64 (.v 440) (.c 1),
.add 64 (.v 386) (.v 445),
.mul 64 (.v 442) (.c 18446744073709551615),
.add 64 (.v 413) (.v 443),
.mul 64 (.v 442) (.c 1)]
def head59:List Ex:=foldEx ++ (rowIEx 379 6 331 340 349 358 367 376 378 ++ (rowIEx 315 5 267 276 285 294 303 312 314 ++ (rowIEx 251 4 203 212 221 230 239 248 250 ++ (rowIEx 187 3 139 148 157 166 175 184 186 ++ (rowIEx 123 2 75 84 93 102 111 120 122 ++ (rowIEx 59 1 16 24 32 40 48 56 58 ++ (row0Ex 2)))))))
theorem way59_0t:wayOk Try.f59 69 471 W59 head59 4 14 (List.replicate 7 (.lit (.int .i64 0))) 0 true=true:=by kernel_rfl
theorem way59_0f:wayOk Try.f59 69 471 W59 head59 4 14 (List.replicate 7 (.lit (.int .i64 0))) 0 false=true:=by kernel_rfl
theorem way59_1t:wayOk Try.f59 69 471 W59 head59 4 14 (List.replicate 7 (.lit (.int .i64 0))) 1 true=true:=by kernel_rfl
theorem way59_1f:wayOk Try.f59 69 471 W59 head59 4 14 (List.replicate 7 (.lit (.int .i64 0))) 1 false=true:=by kernel_rfl
theorem way59_2t:wayOk Try.f59 69 471 W59 head59 4 14 (List.replicate 7 (.lit (.int .i64 0))) 2 true=true:=by kernel_rfl
theorem way59_2f:wayOk Try.f59 69 471 W59 head59 4 14 (List.replicate 7 (.lit (.int .i64 0))) 2 false=true:=by kernel_rfl
theorem ways59:waysOk Try.f59 69 471 W59 head59 4 14 (List.replicate 7 (.lit (.int .i64 0)))=true:=by
 have e:waysOk Try.f59 69 471 W59 head59 4 14 (List.replicate 7 (.lit (.int .i64 0)))=((wayOk Try.f59 69 471 W59 head59 4 14 (List.replicate 7 (.lit (.int .i64 0))) 0 true && wayOk Try.f59 69 471 W59 head59 4 14 (List.replicate 7 (.lit (.int .i64 0))) 0 false) && ((wayOk Try.f59 69 471 W59 head59 4 14 (List.replicate 7 (.lit (.int .i64 0))) 1 true && wayOk Try.f59 69 471 W59 head59 4 14 (List.replicate 7 (.lit (.int .i64 0))) 1 false) && ((wayOk Try.f59 69 471 W59 head59 4 14 (List.replicate 7 (.lit (.int .i64 0))) 2 true && wayOk Try.f59 69 471 W59 head59 4 14 (List.replicate 7 (.lit (.int .i64 0))) 2 false) && true))):=rfl
 rw [e,way59_0t,way59_0f,way59_1t,way59_1f,way59_2t,way59_2f]
 rfl
set_option maxHeartbeats 4000000 in
theorem fold_law {s:Nums} {l:List Ex} {P:Nat} (p0:D P 0=s 8) (p1:D P 1=s 66) (p2:D P 2=s 130) (p3:D P 3=s 194) (p4:D P 4=s 258) (p5:D P 5=s 322) (p6:D P 6=s 386) (p7:D P 7=s 395) (p8:D P 8=s 404) (p9:D P 9=s 413) (p10:D P 10=s 422) (p11:D P 11=s 431) (p12:D P 12=s 440) (p13:D P 13=s 442) (h:Holds s 471 (foldEx ++ l)):sumW (vals s W59)=foldS P∧smallW (vals s W59)=true:=by
 obtain ⟨e470,e469,e468,e467,e466,e465,e464,e463,e462,e461,e460,e459,e458,e457,e456,e455,e454,e453,e452,e451,e450,e449,e448,e447,e446,e445,e444,e443,_⟩:=h
 have e443:s 443=s 442*1 % 2 ^ 64:=e443
 have e444:s 444=(s 413+s 443) % 2 ^ 64:=e444
 have e445:s 445=s 442*18446744073709551615 % 2 ^ 64:=e445
 have e446:s 446=(s 386+s 445) % 2 ^ 64:=e446
 have e447:s 447=s 440*1 % 2 ^ 64:=e447
 have e448:s 448=(s 404+s 447) % 2 ^ 64:=e448
 have e449:s 449=s 440*18446744073709551615 % 2 ^ 64:=e449
 have e450:s 450=(s 322+s 449) % 2 ^ 64:=e450
 have e451:s 451=s 431*1 % 2 ^ 64:=e451
 have e452:s 452=(s 395+s 451) % 2 ^ 64:=e452
 have e453:s 453=s 431*18446744073709551615 % 2 ^ 64:=e453
 have e454:s 454=(s 258+s 453) % 2 ^ 64:=e454
 have e455:s 455=s 422*1 % 2 ^ 64:=e455
 have e456:s 456=(s 446+s 455) % 2 ^ 64:=e456
 have e457:s 457=s 422*18446744073709551615 % 2 ^ 64:=e457
 have e458:s 458=(s 194+s 457) % 2 ^ 64:=e458
 have e459:s 459=s 444*1 % 2 ^ 64:=e459
 have e460:s 460=(s 450+s 459) % 2 ^ 64:=e460
 have e461:s 461=s 444*18446744073709551615 % 2 ^ 64:=e461
 have e462:s 462=(s 130+s 461) % 2 ^ 64:=e462
 have e463:s 463=s 448*1 % 2 ^ 64:=e463
 have e464:s 464=(s 454+s 463) % 2 ^ 64:=e464
 have e465:s 465=s 448*18446744073709551615 % 2 ^ 64:=e465
 have e466:s 466=(s 66+s 465) % 2 ^ 64:=e466
 have e467:s 467=s 452*1 % 2 ^ 64:=e467
 have e468:s 468=(s 458+s 467) % 2 ^ 64:=e468
 have e469:s 469=s 452*18446744073709551615 % 2 ^ 64:=e469
 have e470:s 470=(s 8+s 469) % 2 ^ 64:=e470
 have b8:s 8<4294967296:=by rw [← p0]; exact D_lt P 0
 have b66:s 66<4294967296:=by rw [← p1]; exact D_lt P 1
 have b130:s 130<4294967296:=by rw [← p2]; exact D_lt P 2
 have b194:s 194<4294967296:=by rw [← p3]; exact D_lt P 3
 have b258:s 258<4294967296:=by rw [← p4]; exact D_lt P 4
 have b322:s 322<4294967296:=by rw [← p5]; exact D_lt P 5
 have b386:s 386<4294967296:=by rw [← p6]; exact D_lt P 6
 have b395:s 395<4294967296:=by rw [← p7]; exact D_lt P 7
 have b404:s 404<4294967296:=by rw [← p8]; exact D_lt P 8
 have b413:s 413<4294967296:=by rw [← p9]; exact D_lt P 9
 have b422:s 422<4294967296:=by rw [← p10]; exact D_lt P 10
 have b431:s 431<4294967296:=by rw [← p11]; exact D_lt P 11
 have b440:s 440<4294967296:=by rw [← p12]; exact D_lt P 12
 have b442:s 442<4294967296:=by rw [← p13]; exact D_lt P 13
 have g8:sgn (s 8)=s 8:=sgn_nat (by omega)
 have u8:s 8<2 ^ 64:=by omega
 have g66:sgn (s 66)=s 66:=sgn_nat (by omega)
 have u66:s 66<2 ^ 64:=by omega
 have g130:sgn (s 130)=s 130:=sgn_nat (by omega)
 have u130:s 130<2 ^ 64:=by omega
 have g194:sgn (s 194)=s 194:=sgn_nat (by omega)
 have u194:s 194<2 ^ 64:=by omega
 have g258:sgn (s 258)=s 258:=sgn_nat (by omega)
 have u258:s 258<2 ^ 64:=by omega
 have g322:sgn (s 322)=s 322:=sgn_nat (by omega)
 have u322:s 322<2 ^ 64:=by omega
 have g386:sgn (s 386)=s 386:=sgn_nat (by omega)
 have u386:s 386<2 ^ 64:=by omega
 have g395:sgn (s 395)=s 395:=sgn_nat (by omega)
 have u395:s 395<2 ^ 64:=by omega
 have g404:sgn (s 404)=s 404:=sgn_nat (by omega)
 have u404:s 404<2 ^ 64:=by omega
 have g413:sgn (s 413)=s 413:=sgn_nat (by omega)
 have u413:s 413<2 ^ 64:=by omega
 have g422:sgn (s 422)=s 422:=sgn_nat (by omega)
 have u422:s 422<2 ^ 64:=by omega
 have g431:sgn (s 431)=s 431:=sgn_nat (by omega)
 have u431:s 431<2 ^ 64:=by omega
 have g440:sgn (s 440)=s 440:=sgn_nat (by omega)
 have u440:s 440<2 ^ 64:=by omega
 have g442:sgn (s 442)=s 442:=sgn_nat (by omega)
 have u442:s 442<2 ^ 64:=by omega
 obtain ⟨g444,u444⟩:=fold_pos u442 u413 g442 g413 (by omega) (by omega) e443 e444
 obtain ⟨g446,u446⟩:=fold_neg u442 u386 g442 g386 (by omega) (by omega) e445 e446
 obtain ⟨g448,u448⟩:=fold_pos u440 u404 g440 g404 (by omega) (by omega) e447 e448
 obtain ⟨g450,u450⟩:=fold_neg u440 u322 g440 g322 (by omega) (by omega) e449 e450
 obtain ⟨g452,u452⟩:=fold_pos u431 u395 g431 g395 (by omega) (by omega) e451 e452
 obtain ⟨g454,u454⟩:=fold_neg u431 u258 g431 g258 (by omega) (by omega) e453 e454
 obtain ⟨g456,u456⟩:=fold_pos u422 u446 g422 g446 (by omega) (by omega) e455 e456
 obtain ⟨g458,u458⟩:=fold_neg u422 u194 g422 g194 (by omega) (by omega) e457 e458
 obtain ⟨g460,u460⟩:=fold_pos u444 u450 g444 g450 (by omega) (by omega) e459 e460
 obtain ⟨g462,u462⟩:=fold_neg u444 u130 g444 g130 (by omega) (by omega) e461 e462
 obtain ⟨g464,u464⟩:=fold_pos u448 u454 g448 g454 (by omega) (by omega) e463 e464
 obtain ⟨g466,u466⟩:=fold_neg u448 u66 g448 g66 (by omega) (by omega) e465 e466
 obtain ⟨g468,u468⟩:=fold_pos u452 u458 g452 g458 (by omega) (by omega) e467 e468
 obtain ⟨g470,u470⟩:=fold_neg u452 u8 g452 g8 (by omega) (by omega) e469 e470
 clear e443 e444 e445 e446 e447 e448 e449 e450 e451 e452 e453 e454 e455 e456 e457 e458 e459 e460 e461 e462 e463 e464 e465 e466 e467 e468 e469 e470
 refine ⟨?_,smallW7 (a:=s 470) (b:=s 466) (c:=s 462) (d:=s 468) (e:=s 464) (f:=s 460) (g:=s 456) ⟨u470,u466,u462,u468,u464,u460,u456⟩ ?_⟩
 ·show sgn (s 470)+4294967296*(sgn (s 466)+4294967296*(sgn (s 462)+4294967296*(sgn (s 468)+4294967296*(sgn (s 464)+4294967296*(sgn (s 460)+4294967296*(sgn (s 456)+4294967296*(0)))))))=_
  unfold foldS
  rw [p0,p1,p2,p3,p4,p5,p6,p7,p8,p9,p10,p11,p12,p13]
  rw [g470,g466,g462,g468,g464,g460,g456]
  omega
 ·rw [g470,g466,g462,g468,g464,g460,g456]
  omega
theorem law59 {s:Nums} {x y:Nat} (hx:x<2 ^ 224) (hy:y<2 ^ 224) (h0:s 0=x) (h1:s 1=y) (h:Holds s 471 head59):sumW (vals s W59)=foldS (x*y)∧smallW (vals s W59)=true:=by
 have hd:=Holds.drop foldEx _ 443 h
 have d6:=Holds.drop (rowIEx 379 6 331 340 349 358 367 376 378) _ 379 hd
 have d5:=Holds.drop (rowIEx 315 5 267 276 285 294 303 312 314) _ 315 d6
 have d4:=Holds.drop (rowIEx 251 4 203 212 221 230 239 248 250) _ 251 d5
 have d3:=Holds.drop (rowIEx 187 3 139 148 157 166 175 184 186) _ 187 d4
 have d2:=Holds.drop (rowIEx 123 2 75 84 93 102 111 120 122) _ 123 d3
 have d1:=Holds.drop (rowIEx 59 1 16 24 32 40 48 56 58) _ 59 d2
 have z:Holds s (2+57) (row0Ex 2 ++ []):=by rw [List.append_nil]; exact d1
 obtain ⟨R0,⟨a0_0,a0_1,a0_2,a0_3,a0_4,a0_5,a0_6,a0_7⟩,_⟩:=row0_law hy h0 h1 z
 obtain ⟨R1,⟨a1_0,a1_1,a1_2,a1_3,a1_4,a1_5,a1_6,a1_7⟩,_⟩:=rowI_law (n:=59) hy h0 h1 ⟨a0_1,a0_2,a0_3,a0_4,a0_5,a0_6,a0_7⟩ d2
 obtain ⟨R2,⟨a2_0,a2_1,a2_2,a2_3,a2_4,a2_5,a2_6,a2_7⟩,_⟩:=rowI_law (n:=123) hy h0 h1 ⟨a1_1,a1_2,a1_3,a1_4,a1_5,a1_6,a1_7⟩ d3
 obtain ⟨R3,⟨a3_0,a3_1,a3_2,a3_3,a3_4,a3_5,a3_6,a3_7⟩,_⟩:=rowI_law (n:=187) hy h0 h1 ⟨a2_1,a2_2,a2_3,a2_4,a2_5,a2_6,a2_7⟩ d4
 obtain ⟨R4,⟨a4_0,a4_1,a4_2,a4_3,a4_4,a4_5,a4_6,a4_7⟩,_⟩:=rowI_law (n:=251) hy h0 h1 ⟨a3_1,a3_2,a3_3,a3_4,a3_5,a3_6,a3_7⟩ d5
 obtain ⟨R5,⟨a5_0,a5_1,a5_2,a5_3,a5_4,a5_5,a5_6,a5_7⟩,_⟩:=rowI_law (n:=315) hy h0 h1 ⟨a4_1,a4_2,a4_3,a4_4,a4_5,a4_6,a4_7⟩ d6
 obtain ⟨R6,⟨a6_0,a6_1,a6_2,a6_3,a6_4,a6_5,a6_6,a6_7⟩,_⟩:=rowI_law (n:=379) hy h0 h1 ⟨a5_1,a5_2,a5_3,a5_4,a5_5,a5_6,a5_7⟩ hd
 have T:=rows7 R0 R1 R2 R3 R4 R5 R6
 rw [← sum_DN hx] at T
 have hP:sum32 [s 8,s 66,s 130,s 194,s 258,s 322,s 386,s 395,s 404,s 413,s 422,s 431,s 440,s 442]=x*y:=by
  rw [← T]
  rfl
 have hall:∀ z ∈ [s 8,s 66,s 130,s 194,s 258,s 322,s 386,s 395,s 404,s 413,s 422,s 431,s 440,s 442],z<4294967296:=by
  intro z hz
  simp only [List.mem_cons,List.not_mem_nil,or_false] at hz
  rcases hz with rfl | rfl | rfl | rfl | rfl | rfl | rfl | rfl | rfl | rfl | rfl | rfl | rfl | rfl
  ·exact a0_0
  ·exact a1_0
  ·exact a2_0
  ·exact a3_0
  ·exact a4_0
  ·exact a5_0
  ·exact a6_0
  ·exact a6_1
  ·exact a6_2
  ·exact a6_3
  ·exact a6_4
  ·exact a6_5
  ·exact a6_6
  ·exact a6_7
 have p0:D (x*y) 0=s 8:=by rw [← hP]; exact dig_sum _ 0 hall
 have p1:D (x*y) 1=s 66:=by rw [← hP]; exact dig_sum _ 1 hall
 have p2:D (x*y) 2=s 130:=by rw [← hP]; exact dig_sum _ 2 hall
 have p3:D (x*y) 3=s 194:=by rw [← hP]; exact dig_sum _ 3 hall
 have p4:D (x*y) 4=s 258:=by rw [← hP]; exact dig_sum _ 4 hall
 have p5:D (x*y) 5=s 322:=by rw [← hP]; exact dig_sum _ 5 hall
 have p6:D (x*y) 6=s 386:=by rw [← hP]; exact dig_sum _ 6 hall
 have p7:D (x*y) 7=s 395:=by rw [← hP]; exact dig_sum _ 7 hall
 have p8:D (x*y) 8=s 404:=by rw [← hP]; exact dig_sum _ 8 hall
 have p9:D (x*y) 9=s 413:=by rw [← hP]; exact dig_sum _ 9 hall
 have p10:D (x*y) 10=s 422:=by rw [← hP]; exact dig_sum _ 10 hall
 have p11:D (x*y) 11=s 431:=by rw [← hP]; exact dig_sum _ 11 hall
 have p12:D (x*y) 12=s 440:=by rw [← hP]; exact dig_sum _ 12 hall
 have p13:D (x*y) 13=s 442:=by rw [← hP]; exact dig_sum _ 13 hall
 exact fold_law p0 p1 p2 p3 p4 p5 p6 p7 p8 p9 p10 p11 p12 p13 h
theorem mul_448 {x y:Nat} (hx:x<2 ^ 224) (hy:y<2 ^ 224):x*y<2 ^ 448:=by
 have:=Nat.mul_lt_mul'' hx hy
 rwa [← Nat.pow_add] at this
theorem sum14 {P:Nat} (hP:P<2 ^ 448):sum32 [D P 0,D P 1,D P 2,D P 3,D P 4,D P 5,D P 6,D P 7,D P 8,D P 9,D P 10,D P 11,D P 12,D P 13]=P:=by
 have step:∀ k,P / 2 ^ (32*k)=D P k+4294967296*(P / 2 ^ (32*(k+1))):=fun k=>by
  rw [div32]
  unfold D
  have:=Nat.div_add_mod (P / 2 ^ (32*k)) (2 ^ 32)
  omega
 have z:P / 2 ^ (32*(13+1))=0:=Nat.div_eq_of_lt hP
 have e0:P / 2 ^ (32*0)=P:=by simp
 have hs:P=D P 0+4294967296*(D P 1+4294967296*(D P 2+4294967296*(D P 3+4294967296*(D P 4+4294967296*(D P 5+4294967296*(D P 6+4294967296*(D P 7+4294967296*(D P 8+4294967296*(D P 9+4294967296*(D P 10+4294967296*(D P 11+4294967296*(D P 12+4294967296*(D P 13+4294967296*0))))))))))))):=by
  have s0:=step 0
  rw [e0,step 1,step 2,step 3,step 4,step 5,step 6,step 7,step 8,step 9,step 10,step 11,step 12,step 13,z] at s0
  exact s0
 exact hs.symm
theorem foldS_mod {P:Nat} (hP:P<2 ^ 448):foldS P % pq=(P:Int) % pq:=by
 rw [foldS_sum,sum14 hP,Int.sub_mul_emod_self_left]
theorem meets59 (w:World) (bf of b1 o1 c1 b2 o2 c2 x y:Nat) (hc1:7≤c1) (hc2:7≤c2) (hfo:FoldsAt w bf of) (hx:El w b1 o1 x) (hy:El w b2 o2 y) :
  Meets Try.prog 59 #[curveV bf of,.slice (some ⟨b1,o1,none⟩) 7 c1,.slice (some ⟨b2,o2,none⟩) 7 c2] w (NewEl w 14 (x*y % pq)):=by
 have hb:=foldS_bound (x*y)
 have h:=meets_ways ways59 Try.ntmps59 (by decide) Try.func59 (by kernel_rfl) (by kernel_rfl) (by decide) w bf of b1 o1 c1 b2 o2 c2 x y hc1 hc2 hfo hx hy hb.1 hb.2 fun s h0 h1 h=>law59 hx.2 hy.2 h0 h1 h
 rw [foldS_mod (mul_448 hx.2 hy.2)] at h
 exact h
end P224
