/- Multiples by half bytes: what twenty numbers do. -/
import Derived.Test.YtccmmkgiamcgeaaGV2
import Derived.Test.YtccmmkgiamcgeaaGP7
set_option linter.all false
namespace P224
open Go Go.RowKit Go.Proofs
set_option maxRecDepth 100000
set_option linter.unusedVariables false
theorem nsmul_zero (p:Pt pp):nsmul 0 p=.far:=by rw [nsmul]
def RN (s:Nums) (i j k:Nat) (p:Pt pp):Prop:=Rep (toTri pp (s i,s j,s k)) p
theorem rep_dblN {X1 Y1 Z1:Nat} {p:Pt pp} (hp:OnC bb p) (ht:Rep (toTri pp (X1,Y1,Z1)) p) {X Y Z:Nat}
  (hX:X=sxN pq bq X1 Y1 Z1 X1 Y1 Z1) (hY:Y=syN pq bq X1 Y1 Z1 X1 Y1 Z1) (hZ:Z=8*(Y1*Y1*Y1)*Z1 % pq):Rep (toTri pp (X,Y,Z)) (padd p p):=by
 have h:=rep_dbl fine hp ht
 have e:toTri pp (X,Y,Z)=tdbl bb (toTri pp (X1,Y1,Z1)):=by
  unfold toTri tdbl
  rw [hX,hY,hZ]
  have e1:=fi_sxN (n:=pp) bN X1 Y1 Z1 X1 Y1 Z1
  have e2:=fi_syN (n:=pp) bN X1 Y1 Z1 X1 Y1 Z1
  rw [← bb_eq] at e1 e2
  have e3:fi pp (8*(Y1*Y1*Y1)*Z1 % pq)=8*(fi pp Y1*fi pp Y1*fi pp Y1)*fi pp Z1:=by
   rw [pq_is,fi_mod,fi_mul,fi_mul,fi_mul,fi_mul]
   rfl
  simp only []
  rw [e3]
  show Tri.mk (fi pp (sxN pp bN X1 Y1 Z1 X1 Y1 Z1)) (fi pp (syN pp bN X1 Y1 Z1 X1 Y1 Z1)) _=_
  rw [e1,e2]
 rw [e]
 exact h
def dblE (i j k:Nat):List Ex:=[.op 18 [.v j,.v k],.op 16 [.v i,.v j,.v k,.v i,.v j,.v k],.op 15 [.v i,.v j,.v k,.v i,.v j,.v k]]
def addE (i j k l m n:Nat):List Ex:=[.op 17 [.v i,.v j,.v k,.v l,.v m,.v n],.op 16 [.v i,.v j,.v k,.v l,.v m,.v n],.op 15 [.v i,.v j,.v k,.v l,.v m,.v n]]
theorem dblE_ok {s:Nums} {i j k n:Nat} {l:List Ex} {p:Pt pp} (hp:OnC bb p) (h:RN s i j k p) (hH:Holds s (n+3) (dblE i j k ++ l)):RN s n (n+1) (n+2) (padd p p)∧Holds s n l:=by
 obtain ⟨h2,h1,h0,hr⟩:=hH
 have h2':s (n+2)=8*(s j*s j*s j)*s k % pq:=h2
 have h1':s (n+1)=syN pq bq (s i) (s j) (s k) (s i) (s j) (s k):=h1
 have h0':s n=sxN pq bq (s i) (s j) (s k) (s i) (s j) (s k):=h0
 refine ⟨?_,hr⟩
 unfold RN at h ⊢
 exact rep_dblN hp h h0' h1' h2'
theorem addE_ok {s:Nums} {i j k l m n b:Nat} {t:List Ex} {p q:Pt pp} (hp:OnC bb p) (hq:OnC bb q) (h:RN s i j k p) (h':RN s l m n q) (hH:Holds s (b+3) (addE i j k l m n ++ t)):RN s b (b+1) (b+2) (padd p q)∧Holds s b t:=by
 obtain ⟨h2,h1,h0,hr⟩:=hH
 have h2':s (b+2)=szN pq bq (s i) (s j) (s k) (s l) (s m) (s n):=h2
 have h1':s (b+1)=syN pq bq (s i) (s j) (s k) (s l) (s m) (s n):=h1
 have h0':s b=sxN pq bq (s i) (s j) (s k) (s l) (s m) (s n):=h0
 refine ⟨?_,hr⟩
 unfold RN at h h' ⊢
 have key:=rep_addN fine bb_eq hp hq h h'
 rw [h2',h1',h0']
 exact key
structure Lay where
 a:Nat
 b:Nat
 c:Nat
 tb:Nat
 nb:Nat
def tN (L:Lay) (c:Nat) (i:Nat):Nat:=if i=0 then (if c=0 then L.a else if c=1 then L.b else L.c) else L.tb+3*(i - 1)+c
def tbl (L:Lay) (c:Nat):List Wd:=(List.range 15).map fun i=>.v (tN L c i)
def TabOk (L:Lay) (s:Nums) (p:Pt pp):Prop:=∀ i,i<15→RN s (tN L 0 i) (tN L 1 i) (tN L 2 i) (nsmul (i+1) p)
def selE (L:Lay) (a:Nat):List Ex:=[.op 29 (.v a :: .c 0 :: tbl L 2),.op 29 (.v a :: .c 1 :: tbl L 1),.op 29 (.v a :: .c 0 :: tbl L 0),.op 4 [.v a,.c 16]]
theorem tbl_get (L:Lay) (s:Nums) (c:Nat) {i:Nat} (hi:i<15):((tbl L c).map (Wd.val s)).getD i 0=s (tN L c i):=by
 rw [tbl,List.map_map,List.getD_eq_getElem?_getD,List.getElem?_map,List.getElem?_range hi]
 rfl
theorem selE_ok {L:Lay} {s:Nums} {a b:Nat} {l:List Ex} {p:Pt pp} (ht:TabOk L s p) (ha:s a<16) (hH:Holds s (b+4) (selE L a ++ l)):RN s (b+1) (b+2) (b+3) (nsmul (s a) p)∧s b=1∧Holds s b l:=by
 obtain ⟨h3,h2,h1,h0,hr⟩:=hH
 have e3:s (b+3)=tb (s a) 0 fun i=>((tbl L 2).map (Wd.val s)).getD i 0:=(show s (b+3)=opVal 29 (s a :: 0 :: (tbl L 2).map (Wd.val s)) from h3).trans (op29 _ _ _)
 have e2:s (b+2)=tb (s a) 1 fun i=>((tbl L 1).map (Wd.val s)).getD i 0:=(show s (b+2)=opVal 29 (s a :: 1 :: (tbl L 1).map (Wd.val s)) from h2).trans (op29 _ _ _)
 have e1:s (b+1)=tb (s a) 0 fun i=>((tbl L 0).map (Wd.val s)).getD i 0:=(show s (b+1)=opVal 29 (s a :: 0 :: (tbl L 0).map (Wd.val s)) from h1).trans (op29 _ _ _)
 have e0:s b=if s a<16 then 1 else 0:=h0
 rw [if_pos ha] at e0
 refine ⟨?_,e0,hr⟩
 unfold RN
 rw [e1,e2,e3]
 unfold tb
 by_cases h:s a=0
 ·rw [if_pos h,if_pos h,if_pos h,h,nsmul_zero p]
  exact rep_zero fine
 ·have hi:s a - 1<15:=by omega
  rw [if_neg h,if_neg h,if_neg h]
  show Rep (toTri pp (((tbl L 0).map (Wd.val s)).getD (s a - 1) 0,((tbl L 1).map (Wd.val s)).getD (s a - 1) 0,((tbl L 2).map (Wd.val s)).getD (s a - 1) 0)) _
  rw [tbl_get L s 0 hi,tbl_get L s 1 hi,tbl_get L s 2 hi]
  have:=ht (s a - 1) hi
  rwa [show s a - 1+1=s a by omega] at this
end P224
/- Multiples by half bytes: one half byte. -/
namespace P224
open Go Go.RowKit Go.Proofs
set_option maxRecDepth 100000
set_option linter.unusedVariables false
def half (L:Lay) (b i j k:Nat) (nib:Ex) (l:List Ex):List Ex:=addE i j k (b+2) (b+3) (b+4) ++ (selE L b ++ nib :: l)
theorem half_ok {L:Lay} {s:Nums} {b i j k K v:Nat} {nib:Ex} {l:List Ex} {p:Pt pp} (hp:OnC bb p) (ht:TabOk L s p) (h:RN s i j k (nsmul K p)) (hv:nib.val s=v) (hv16:v<16) (hH:Holds s (b+8) (half L b i j k nib l)) :
  RN s (b+5) (b+6) (b+7) (nsmul (K+v) p)∧s (b+1)=1∧Holds s b l:=by
 have hH':Holds s (b+5+3) (addE i j k (b+2) (b+3) (b+4) ++ (selE L b ++ nib :: l)):=hH
 have hrest:Holds s (b+1+4) (selE L b ++ nib :: l):=by
  obtain ⟨_,_,_,hr⟩:=hH'
  exact hr
 have hnib:Holds s (b+1) (nib :: l):=by
  obtain ⟨_,_,_,_,hr⟩:=hrest
  exact hr
 obtain ⟨e,hl⟩:=hnib
 have e':s b=v:=(show s b=nib.val s from e).trans hv
 obtain ⟨g1,g2,_⟩:=selE_ok (a:=b) (b:=b+1) ht (by rw [e']; exact hv16) hrest
 obtain ⟨q1,_⟩:=addE_ok (b:=b+5) (nsmul_on fine hp K) (nsmul_on fine hp _) h g1 hH'
 rw [e',← nsmul_add fine hp] at q1
 exact ⟨q1,g2,hl⟩
def dbl4 (b i:Nat) (l:List Ex):List Ex :=
 dblE (b+6) (b+7) (b+8) ++ (dblE (b+3) (b+4) (b+5) ++ (dblE b (b+1) (b+2) ++ (dblE i (i+1) (i+2) ++ l)))
theorem dbl4_ok {s:Nums} {b i K:Nat} {l:List Ex} {p:Pt pp} (hp:OnC bb p) (h:RN s i (i+1) (i+2) (nsmul K p)) (hH:Holds s (b+12) (dbl4 b i l)) :
  RN s (b+9) (b+10) (b+11) (nsmul (16*K) p)∧Holds s b l:=by
 have h4:Holds s (b+9+3) (dblE (b+6) (b+7) (b+8) ++ (dblE (b+3) (b+4) (b+5) ++ (dblE b (b+1) (b+2) ++ (dblE i (i+1) (i+2) ++ l)))):=hH
 have h3:Holds s (b+6+3) (dblE (b+3) (b+4) (b+5) ++ (dblE b (b+1) (b+2) ++ (dblE i (i+1) (i+2) ++ l))):=by
  obtain ⟨_,_,_,hr⟩:=h4; exact hr
 have h2:Holds s (b+3+3) (dblE b (b+1) (b+2) ++ (dblE i (i+1) (i+2) ++ l)):=by
  obtain ⟨_,_,_,hr⟩:=h3; exact hr
 have h1:Holds s (b+3) (dblE i (i+1) (i+2) ++ l):=by
  obtain ⟨_,_,_,hr⟩:=h2; exact hr
 obtain ⟨r1,hl⟩:=dblE_ok (nsmul_on fine hp _) h h1
 rw [← nsmul_two fine hp] at r1
 obtain ⟨r2,_⟩:=dblE_ok (n:=b+3) (nsmul_on fine hp _) r1 h2
 rw [← nsmul_two fine hp] at r2
 obtain ⟨r3,_⟩:=dblE_ok (n:=b+6) (nsmul_on fine hp _) r2 h3
 rw [← nsmul_two fine hp] at r3
 obtain ⟨r4,_⟩:=dblE_ok (n:=b+9) (nsmul_on fine hp _) r3 h4
 rw [← nsmul_two fine hp,show 2*(2*(2*(2*K)))=16*K by omega] at r4
 exact ⟨r4,hl⟩
end P224
/- The table of fifteen multiples. -/
namespace P224
open Go Go.RowKit Go.Proofs
set_option maxRecDepth 100000
set_option linter.unusedVariables false
def fifE (L:Lay) (l:List Ex):Nat→List Ex
 | 0=>l
 | k+1=>addE (tN L 0 (2*k+1)) (tN L 1 (2*k+1)) (tN L 2 (2*k+1)) L.a L.b L.c ++ (dblE (tN L 0 k) (tN L 1 k) (tN L 2 k) ++ fifE L l k)
theorem tN_pos {L:Lay} {c i:Nat} (h:i≠0):tN L c i=L.tb+3*(i - 1)+c:=if_neg h
theorem fifE_ok {L:Lay} {s:Nums} {l:List Ex} {p:Pt pp} (hp:OnC bb p) (h0:RN s L.a L.b L.c p):∀ k,Holds s (L.tb+6*k) (fifE L l k)→(∀ i,i≤2*k→RN s (tN L 0 i) (tN L 1 i) (tN L 2 i) (nsmul (i+1) p))∧Holds s L.tb l
 | 0,hH=>⟨fun i hi=>by
   have:i=0:=by omega
   subst this
   rw [nsmul_one]
   exact h0,hH⟩
 | k+1,hH=>by
  have hA:Holds s (L.tb+3+6*k+3) (addE (tN L 0 (2*k+1)) (tN L 1 (2*k+1)) (tN L 2 (2*k+1)) L.a L.b L.c ++ (dblE (tN L 0 k) (tN L 1 k) (tN L 2 k) ++ fifE L l k)):=by
   have e:L.tb+6*(k+1)=L.tb+3+6*k+3:=by omega
   rw [e] at hH
   exact hH
  have hD:Holds s (L.tb+6*k+3) (dblE (tN L 0 k) (tN L 1 k) (tN L 2 k) ++ fifE L l k):=by
   obtain ⟨_,_,_,hr⟩:=hA
   have e:L.tb+6*k+3=L.tb+3+6*k:=by omega
   rw [e]
   exact hr
  have hT:Holds s (L.tb+6*k) (fifE L l k):=by
   obtain ⟨_,_,_,hr⟩:=hD
   exact hr
  obtain ⟨ih,hl⟩:=fifE_ok hp h0 k hT
  obtain ⟨d,_⟩:=dblE_ok (nsmul_on fine hp _) (ih k (by omega)) hD
  rw [← nsmul_two fine hp,show 2*(k+1)=2*k+1+1 by omega] at d
  have eD:tN L 0 (2*k+1)=L.tb+6*k∧tN L 1 (2*k+1)=L.tb+6*k+1∧tN L 2 (2*k+1)=L.tb+6*k+2:=by
   rw [tN_pos (by omega),tN_pos (by omega),tN_pos (by omega)]; omega
  have d':RN s (tN L 0 (2*k+1)) (tN L 1 (2*k+1)) (tN L 2 (2*k+1)) (nsmul (2*k+1+1) p):=by
   rw [eD.1,eD.2.1,eD.2.2]; exact d
  obtain ⟨a,_⟩:=addE_ok (nsmul_on fine hp _) hp d' h0 hA
  have ea:padd (nsmul (2*k+1+1) p) p=nsmul (2*k+2+1) p:=by
   have h1:=nsmul_add fine hp (2*k+1+1) 1
   rw [nsmul_one] at h1
   exact h1.symm
  rw [ea] at a
  have eA:tN L 0 (2*k+2)=L.tb+3+6*k∧tN L 1 (2*k+2)=L.tb+3+6*k+1∧tN L 2 (2*k+2)=L.tb+3+6*k+2:=by
   rw [tN_pos (by omega),tN_pos (by omega),tN_pos (by omega)]; omega
  refine ⟨fun i hi=>?_,hl⟩
  by_cases h1:i≤2*k
  ·exact ih i h1
  ·have h2:i=2*k+1∨i=2*k+2:=by omega
   rcases h2 with rfl | rfl
   ·exact d'
   ·rw [eA.1,eA.2.1,eA.2.2]; exact a
theorem fifteen_ok {L:Lay} {s:Nums} {l:List Ex} {p:Pt pp} (hp:OnC bb p) (h0:RN s L.a L.b L.c p) (hH:Holds s (L.tb+42) (fifE L l 7)):TabOk L s p∧Holds s L.tb l:=by
 obtain ⟨h,hl⟩:=fifE_ok hp h0 7 hH
 exact ⟨fun i hi=>h i (by omega),hl⟩
end P224
/- All half bytes of a multiple. -/
namespace P224
open Go Go.RowKit Go.Proofs
set_option maxRecDepth 100000
set_option linter.unusedVariables false
def nib (L:Lay) (h:Nat):Ex:=if h % 2=0 then .shr 4 (.v (L.nb+h / 2)) else .and (.v (L.nb+h / 2)) (.c 15)
def nibV (L:Lay) (s:Nums) (h:Nat):Nat:=(nib L h).val s
def nibK (L:Lay) (s:Nums):Nat→Nat
 | 0=>nibV L s 0
 | h+1=>16*nibK L s h+nibV L s (h+1)
def hsE (L:Lay) (l:List Ex):Nat→List Ex
 | 0=>half L (L.tb+50) (L.tb+46) (L.tb+48) (L.tb+49) (nib L 0) l
 | h+1=>half L (L.tb+70+20*h) (L.tb+67+20*h) (L.tb+68+20*h) (L.tb+69+20*h) (nib L (h+1)) (dbl4 (L.tb+58+20*h) (L.tb+55+20*h) (hsE L l h))
theorem hsE_ok {L:Lay} {s:Nums} {l:List Ex} {p:Pt pp} (hp:OnC bb p) (ht:TabOk L s p) (h0:RN s (L.tb+46) (L.tb+48) (L.tb+49) .far):∀ h,(∀ k,k≤h→nibV L s k<16)→Holds s (L.tb+58+20*h) (hsE L l h) →
  RN s (L.tb+55+20*h) (L.tb+56+20*h) (L.tb+57+20*h) (nsmul (nibK L s h) p)∧(∀ k,k≤h→s (L.tb+51+20*k)=1)∧Holds s (L.tb+50) l
 | 0,hv,hH=>by
  have h0':RN s (L.tb+46) (L.tb+48) (L.tb+49) (nsmul 0 p):=by rw [nsmul_zero p]; exact h0
  obtain ⟨q1,q2,q3⟩:=half_ok (b:=L.tb+50) hp ht h0' (v:=nibV L s 0) rfl (hv 0 (Nat.le_refl _)) hH
  rw [Nat.zero_add] at q1
  exact ⟨q1,fun k hk=>by
   have:k=0:=by omega
   subst this
   exact q2,q3⟩
 | h+1,hv,hH=>by
  have hH':Holds s (L.tb+70+20*h+8) (half L (L.tb+70+20*h) (L.tb+67+20*h) (L.tb+68+20*h) (L.tb+69+20*h) (nib L (h+1)) (dbl4 (L.tb+58+20*h) (L.tb+55+20*h) (hsE L l h))):=by
   have e:L.tb+58+20*(h+1)=L.tb+70+20*h+8:=by omega
   rw [e] at hH
   exact hH
  have hD:Holds s (L.tb+58+20*h+12) (dbl4 (L.tb+58+20*h) (L.tb+55+20*h) (hsE L l h)):=by
   have h1:Holds s (L.tb+70+20*h+5+3) (addE (L.tb+67+20*h) (L.tb+68+20*h) (L.tb+69+20*h) (L.tb+70+20*h+2) (L.tb+70+20*h+3) (L.tb+70+20*h+4) ++ (selE L (L.tb+70+20*h) ++ nib L (h+1) :: dbl4 (L.tb+58+20*h) (L.tb+55+20*h) (hsE L l h))):=hH'
   obtain ⟨_,_,_,h2⟩:=h1
   have h3:Holds s (L.tb+70+20*h+1+4) (selE L (L.tb+70+20*h) ++ nib L (h+1) :: dbl4 (L.tb+58+20*h) (L.tb+55+20*h) (hsE L l h)):=h2
   obtain ⟨_,_,_,_,h4⟩:=h3
   have h5:Holds s (L.tb+70+20*h+1) (nib L (h+1) :: dbl4 (L.tb+58+20*h) (L.tb+55+20*h) (hsE L l h)):=h4
   obtain ⟨_,h6⟩:=h5
   have e:L.tb+58+20*h+12=L.tb+70+20*h:=by omega
   rw [e]
   exact h6
  have hS:Holds s (L.tb+58+20*h) (hsE L l h):=by
   obtain ⟨_,_,_,_,_,_,_,_,_,_,_,_,hr⟩:=hD
   exact hr
  obtain ⟨i1,i2,i3⟩:=hsE_ok hp ht h0 h (fun k hk=>hv k (by omega)) hS
  have i1':RN s (L.tb+55+20*h) (L.tb+55+20*h+1) (L.tb+55+20*h+2) (nsmul (nibK L s h) p):=by
   rw [show L.tb+55+20*h+1=L.tb+56+20*h by omega,show L.tb+55+20*h+2=L.tb+57+20*h by omega]
   exact i1
  obtain ⟨d,_⟩:=dbl4_ok hp i1' hD
  rw [show L.tb+58+20*h+9=L.tb+67+20*h by omega,show L.tb+58+20*h+10=L.tb+68+20*h by omega,show L.tb+58+20*h+11=L.tb+69+20*h by omega] at d
  obtain ⟨q1,q2,_⟩:=half_ok hp ht d (v:=nibV L s (h+1)) rfl (hv (h+1) (Nat.le_refl _)) hH'
  refine ⟨?_,fun k hk=>?_,i3⟩
  ·rw [show L.tb+55+20*(h+1)=L.tb+70+20*h+5 by omega,show L.tb+56+20*(h+1)=L.tb+70+20*h+6 by omega,show L.tb+57+20*(h+1)=L.tb+70+20*h+7 by omega]
   exact q1
  ·by_cases hk':k≤h
   ·exact i2 k hk'
   ·have:k=h+1:=by omega
    subst this
    rw [show L.tb+51+20*(h+1)=L.tb+70+20*h+1 by omega]
    exact q2
end P224
/- The number of the bytes, by half bytes. -/
namespace P224
open Go Go.RowKit Go.Proofs
set_option maxRecDepth 100000
set_option linter.unusedVariables false
theorem ofBytes_snoc:∀ (l:List Nat) (x:Nat),ofBytes (l ++ [x])=256*ofBytes l+x
 | [],x=>by simp [ofBytes]
 | y :: l,x=>by
  show y*256 ^ (l ++ [x]).length+ofBytes (l ++ [x])=256*(y*256 ^ l.length+ofBytes l)+x
  rw [ofBytes_snoc l x,List.length_append,List.length_singleton,Nat.pow_succ,Nat.mul_add,← Nat.add_assoc]
  congr 2
  rw [Nat.mul_comm 256 (y*256 ^ l.length),Nat.mul_assoc]
theorem nibV_even {L:Lay} {s:Nums} (m:Nat):nibV L s (2*m)=s (L.nb+m) / 16:=by
 unfold nibV nib
 rw [if_pos (by omega),show 2*m / 2=m by omega]
 rfl
theorem nibV_odd {L:Lay} {s:Nums} (m:Nat):nibV L s (2*m+1)=s (L.nb+m) % 16:=by
 unfold nibV nib
 rw [if_neg (by omega),show (2*m+1) / 2=m by omega]
 exact Nat.and_two_pow_sub_one_eq_mod _ 4
theorem nibV_lt {L:Lay} {s:Nums} (hs:∀ m,m<28→s (L.nb+m)<256):∀ k,k≤55→nibV L s k<16:=fun k hk=>by
 rcases Nat.mod_two_eq_zero_or_one k with h | h
 ·obtain ⟨m,rfl⟩:∃ m,k=2*m:=⟨k / 2,by omega⟩
  rw [nibV_even]
  have:=hs m (by omega)
  omega
 ·obtain ⟨m,rfl⟩:∃ m,k=2*m+1:=⟨k / 2,by omega⟩
  rw [nibV_odd]
  omega
theorem nibK_bytes {L:Lay} {s:Nums}:∀ m,nibK L s (2*m+1)=ofBytes ((List.range (m+1)).map fun i=>s (L.nb+i))
 | 0=>by
  have h0:nibV L s 0=s (L.nb+0) / 16:=nibV_even 0
  have h1:nibV L s 1=s (L.nb+0) % 16:=nibV_odd 0
  show 16*nibV L s 0+nibV L s 1=s (L.nb+0)*256 ^ 0+0
  omega
 | m+1=>by
  have h0:nibV L s (2*m+1+1)=s (L.nb+(m+1)) / 16:=nibV_even (m+1)
  have h1:nibV L s (2*m+1+1+1)=s (L.nb+(m+1)) % 16:=nibV_odd (m+1)
  rw [List.range_succ,List.map_append,List.map_singleton,ofBytes_snoc,← nibK_bytes m]
  show 16*(16*nibK L s (2*m+1)+nibV L s (2*m+1+1))+nibV L s (2*m+1+1+1)=_
  omega
theorem hsE_rest {L:Lay} {s:Nums} {l:List Ex}:∀ h,Holds s (L.tb+58+20*h) (hsE L l h)→Holds s (L.tb+50) l
 | 0,hH=>by
  obtain ⟨_,_,_,_,_,_,_,_,hr⟩:=(show Holds s (L.tb+50+8) (half L (L.tb+50) (L.tb+46) (L.tb+48) (L.tb+49) (nib L 0) l) from hH)
  exact hr
 | h+1,hH=>by
  have e:L.tb+58+20*(h+1)=L.tb+58+20*h+12+8:=by omega
  rw [e] at hH
  obtain ⟨_,_,_,_,_,_,_,_,hr⟩:=hH
  obtain ⟨_,_,_,_,_,_,_,_,_,_,_,_,hr⟩:=hr
  exact hsE_rest h hr
theorem hs_all {L:Lay} {s:Nums} {l l':List Ex} {p:Pt pp} (hp:OnC bb p) (hpn:RN s L.a L.b L.c p) (hs:∀ m,m<28→s (L.nb+m)<256)
  (h0:Holds s (L.tb+50) l→RN s (L.tb+46) (L.tb+48) (L.tb+49) .far∧Holds s (L.tb+42) (fifE L l' 7)) (hH:Holds s (L.tb+1158) (hsE L l 55)) :
  RN s (L.tb+1155) (L.tb+1156) (L.tb+1157) (nsmul (ofBytes ((List.range 28).map fun i=>s (L.nb+i))) p)∧(∀ k,k≤55→s (L.tb+51+20*k)=1)∧Holds s L.tb l':=by
 obtain ⟨z,hf⟩:=h0 (hsE_rest 55 hH)
 obtain ⟨ht,hl⟩:=fifteen_ok hp hpn hf
 obtain ⟨q1,q2,_⟩:=hsE_ok hp ht z 55 (nibV_lt hs) hH
 rw [← nibK_bytes 27]
 exact ⟨q1,q2,hl⟩
end P224
/- A number's bytes as they come in; what a multiple hands back. -/
namespace P224
open Go Go.RowKit Go.Proofs
set_option maxRecDepth 100000
set_option linter.unusedVariables false
def KAt (w:World) (v:Value) (ks:List Nat):Prop :=
 ∃ b o c,v=.slice (some ⟨b,o,none⟩) 28 c∧28≤c∧ks.length=28∧∀ (i:Nat) x,ks[i]?=some x→w.cell? ⟨b,o+i,none⟩=some (.int .u8 (x:Int))∧x<256
def OutMul (w:World) (p:Pt pp) (r:Value) (w':World):Prop:=∃ v,r=.tuple #[v,.bool true,.bool true]∧NewAt w v w' p
def mulR (n:Nat):Option (Nat × Nat)→PR
 | none=>.far
 | some (i,j)=>.new (.op 25 [.v i,.v j,.v n]) (.op 26 [.v i,.v j,.v n]) (.op 27 [.v i,.v j,.v n])
theorem mulR_is {s:Nums} {n:Nat} {p:Option (Nat × Nat)}:(mulR n p).is s (nsmul (s n) (ptOf s p)):=by
 match p with
 | none=>exact nsmul_far _
 | some (i,j)=>exact ⟨rfl,rfl,rfl⟩
def xMul:X:=fun F st args=>match args with
 | [.one a,.one k]=>match inP F st a,k.asSl with
  | some (p,st1),some (r,o,28)=>match wordsAt .u8 st.mem r o 28 with
   | some ws=>match outP F { st1 with nx:=st1.nx+1,exs:=.op 2 ws :: st1.exs } (mulR st1.nx p) with
    | some (x,st')=>some (.tup [.one x,.one (.lit (.bool true)),.one (.lit (.bool true))],st')
    | none=>none
   | none=>none
  | _,_=>none
 | _=>none
theorem xMul_ok {f:FuncId} (hm:∀ (w:World) (v1 v2:Value) (p:Pt pp) (ks:List Nat),PtAt w v1 p→KAt w v2 ks→Meets Try.prog f #[v1,v2] w (OutMul w (nsmul (ofBytes ks) p))):XOk Try.prog f xMul:=by
 refine ⟨fun {F st st' args av} h=>?_,fun {s β F w0 st st' a w args vs av} hr h hargs hH=>?_⟩
 ·unfold xMul at h
  split at h
  ·split at h
   ·rename_i p st1 r o h1 hk
    split at h
    ·rename_i ws hw
     split at h
     ·rename_i h3
      cases h
      have g:Grows st1 { st1 with nx:=st1.nx+1,exs:=.op 2 ws :: st1.exs }:=⟨⟨[_],rfl,rfl⟩,Nat.le_refl _⟩
      exact (inP_grows h1).trans (g.trans (outP_grows h3))
     ·cases h
    ·cases h
   ·cases h
  ·cases h
 ·unfold xMul at h
  split at h
  ·rename_i ka kb
   split at h
   ·rename_i p st1 r o h1 hk
    split at h
    ·rename_i ws hw
     split at h
     ·rename_i x st3 h3
      cases h
      obtain ⟨u,v,rfl,hu,hv⟩:=avs2 hargs
      have g3:=outP_grows h3
      have H2:=g3.le.holds hH
      have ek:s st1.nx=ofBytes (ws.map (Wd.val s)):=H2.1
      have H1:Holds s st1.nx st1.exs:=H2.2
      obtain ⟨a1,a2,r1⟩:=inP_ok hr h1 H1 hu
      obtain ⟨e1,e2⟩:=inP_same h1
      obtain ⟨⟨c,hva,hca⟩,_⟩:=asSl_rep hk hv
      obtain ⟨l1,l2,l3⟩:=wordsAt_rep hr hw
      have hK:KAt w v (ws.map (Wd.val s)):=⟨_,_,c,hva,hca,by rw [List.length_map,l1],fun i x hx=>by
       rw [List.getElem?_map] at hx
       cases hj:ws[i]? with
       | none=>rw [hj] at hx; cases hx
       | some y =>
        rw [hj] at hx
        cases hx
        obtain ⟨g1,g2⟩:=l3 i y hj
        rw [at_,← Nat.add_assoc] at g1
        exact ⟨g1,g2⟩⟩
      have hme:=hm w u v _ _ a1 hK
      intro o' a' next Q hn
      refine hme o' a' next Q fun r w' ⟨v',hr',hnew⟩=>hn _ _ ?_
      rw [← ek] at hnew
      obtain ⟨β',q1,q2,q3⟩:=outP_ok (r1.nums (st1.nx+1) (.op 2 ws :: st1.exs)) h3 mulR_is hnew hH
      exact ⟨β',by rw [← e2]; exact q1,⟨[_,_,_],hr',q2,rfl,rfl,trivial⟩,q3⟩
     ·cases h
    ·cases h
   ·cases h
  ·cases h
end P224
