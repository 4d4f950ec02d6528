/- The generator's table: all its rows; ScalarBaseMult's code. -/
import Derived.Test.YtccmmkgiamcgeaaGW80
import Derived.Test.YtccmmkgiamcgeaaGW79r0
import Derived.Test.YtccmmkgiamcgeaaGW79r1
import Derived.Test.YtccmmkgiamcgeaaGW79r2
import Derived.Test.YtccmmkgiamcgeaaGW79r3
import Derived.Test.YtccmmkgiamcgeaaGV12
import Derived.Test.YtccmmkgiamcgeaaGW85
set_option linter.all false
namespace P224
open Go Go.RowKit Go.Proofs
set_option maxRecDepth 100000
set_option linter.unusedVariables false
theorem rowRuns:∀ i,i<56→RowRun i
 | 0,_=>rowRun0
 | 1,_=>rowRun1
 | 2,_=>rowRun2
 | 3,_=>rowRun3
 | 4,_=>rowRun4
 | 5,_=>rowRun5
 | 6,_=>rowRun6
 | 7,_=>rowRun7
 | 8,_=>rowRun8
 | 9,_=>rowRun9
 | 10,_=>rowRun10
 | 11,_=>rowRun11
 | 12,_=>rowRun12
 | 13,_=>rowRun13
 | 14,_=>rowRun14
 | 15,_=>rowRun15
 | 16,_=>rowRun16
 | 17,_=>rowRun17
 | 18,_=>rowRun18
 | 19,_=>rowRun19
 | 20,_=>rowRun20
 | 21,_=>rowRun21
 | 22,_=>rowRun22
 | 23,_=>rowRun23
 | 24,_=>rowRun24
 | 25,_=>rowRun25
 | 26,_=>rowRun26
 | 27,_=>rowRun27
 | 28,_=>rowRun28
 | 29,_=>rowRun29
 | 30,_=>rowRun30
 | 31,_=>rowRun31
 | 32,_=>rowRun32
 | 33,_=>rowRun33
 | 34,_=>rowRun34
 | 35,_=>rowRun35
 | 36,_=>rowRun36
 | 37,_=>rowRun37
 | 38,_=>rowRun38
 | 39,_=>rowRun39
 | 40,_=>rowRun40
 | 41,_=>rowRun41
 | 42,_=>rowRun42
 | 43,_=>rowRun43
 | 44,_=>rowRun44
 | 45,_=>rowRun45
 | 46,_=>rowRun46
 | 47,_=>rowRun47
 | 48,_=>rowRun48
 | 49,_=>rowRun49
 | 50,_=>rowRun50
 | 51,_=>rowRun51
 | 52,_=>rowRun52
 | 53,_=>rowRun53
 | 54,_=>rowRun54
 | 55,_=>rowRun55
 | i+56,h=>absurd h (by omega)
theorem table79 (w:World) (v:Value):Meets Try.prog 79 #[v] w fun r w'=>∃ bt P,r=ptrTo bt 0∧Inv79 w w' bt P 56:=meets79 rowRuns w v
end P224
/- ScalarBaseMult: the numbers of a round, and a round more. -/
namespace P224
open Go Go.RowKit Go.Proofs
set_option maxRecDepth 100000
set_option linter.unusedVariables false
theorem nib_hi (s:Nums) (x:Nat):(Ex.shr 4 (.v x)).val s=s x / 16:=rfl
theorem nib_lo (s:Nums) (x:Nat):(Ex.and (.v x) (.c 15)).val s=s x % 16:=Nat.and_two_pow_sub_one_eq_mod _ 4
theorem exB_ok {s:Nums} {B e:Nat} (h:RN s 0 1 2 (nsmul (B*16 ^ (e+2)) gg)) (h1:TabOk L1 s (nsmul (16 ^ (e+1)) gg)) (h2:TabOk L2 s (nsmul (16 ^ e) gg)) (h6:s 6<256) (hH:Holds s 113 exB) :
  RN s 110 111 112 (nsmul ((256*B+s 6)*16 ^ e) gg)∧s 98=1∧s 106=1:=by
 have hT:Holds s (97+8) (half L1 97 0 1 2 (.shr 4 (.v 6)) []):=by
  obtain ⟨_,_,_,_,_,_,_,_,hr⟩:=hH
  exact hr
 have m1:=nsmul_mul fine gg_on (16 ^ (e+1))
 have m2:=nsmul_mul fine gg_on (16 ^ e)
 have p2:16 ^ (e+2)=16 ^ (e+1)*16:=Nat.pow_succ _ _
 have p1:16 ^ (e+1)=16 ^ e*16:=Nat.pow_succ _ _
 have e1:B*16 ^ (e+2)=16 ^ (e+1)*(16*B):=by rw [p2,Nat.mul_comm B,Nat.mul_assoc]
 rw [e1,m1] at h
 obtain ⟨a1,d1,_⟩:=half_ok (b:=97) (nsmul_on fine gg_on _) h1 h (v:=s 6 / 16) (nib_hi s 6) (by omega) hT
 rw [← m1,p1,Nat.mul_assoc,m2] at a1
 obtain ⟨a2,d2,_⟩:=half_ok (b:=105) (nsmul_on fine gg_on _) h2 a1 (v:=s 6 % 16) (nib_lo s 6) (by omega) hH
 rw [← m2] at a2
 have e2:16 ^ e*(16*(16*B+s 6 / 16)+s 6 % 16)=(256*B+s 6)*16 ^ e:=by
  rw [Nat.mul_comm]
  congr 1
  omega
 rw [e2] at a2
 exact ⟨a2,d1,d2⟩
end P224
/- ScalarBaseMult: a round more. -/
namespace P224
open Go Go.RowKit Go.Proofs
set_option maxRecDepth 100000
set_option linter.unusedVariables false
def Six (P T:PtR) (b:Nat):Prop:=b=P.bx∨b=P.b2∨b=P.bz∨b=T.bx∨b=T.b2∨b=T.bz
structure QAt (w:World) (P T q:PtR) (g:Pt pp):Prop where
 cells:q.cells w
 nums:∃ X Y Z,q.val w X Y Z∧Rep (toTri pp (X,Y,Z)) g
 off:¬ Six P T q.b∧¬ Six P T q.bx∧¬ Six P T q.b2∧¬ Six P T q.bz
structure Inv51 (V w:World) (bt:Nat) (P T:PtR) (b3 o3:Nat) (ks:List Nat) (k:Nat):Prop where
 below:Below V.heap.size V w
 pc:P.cells w
 tc:T.cells w
 pr:P.room w
 tr:T.room w
 pa:P.apart
 ta:T.apart
 cross:(P.b≠T.bx∧P.b≠T.b2∧P.b≠T.bz)∧(P.bx≠T.b∧P.bx≠T.bx∧P.bx≠T.b2∧P.bx≠T.bz)∧(P.b2≠T.b∧P.b2≠T.bx∧P.b2≠T.b2∧P.b2≠T.bz)∧(P.bz≠T.b∧P.bz≠T.bx∧P.bz≠T.b2∧P.bz≠T.bz)
 new:∀ b,Six P T b→V.heap.size≤b
 val:∃ X Y Z,P.val w X Y Z∧Rep (toTri pp (X,Y,Z)) (nsmul (ofBytes (ks.take k)*16 ^ (56 - 2*k)) gg)
 tval:∃ X Y Z,T.val w X Y Z
 rows:∀ i,i<56→∀ j,j<15→∃ q:PtR,w.cell? ⟨bt,15*i+j,none⟩=some (ptrTo q.b q.o)∧QAt w P T q (nsmul (j+1) (nsmul (16 ^ i) gg))
 btoff:¬ Six P T bt
 len:ks.length=28
 sc:∀ (i:Nat) x,ks[i]?=some x→w.cell? ⟨b3,o3+i,none⟩=some (.int .u8 (x:Int))∧x<256
 soff:¬ Six P T b3
structure TmB (a:Act) (bt:Nat) (P T:PtR) (b3 o3 k:Nat):Prop where
 size:a.tmps.size=60
 defs:a.defers=[]
 t0:a.tmps.getD 0 undef=ptrTo P.b P.o
 t6:a.tmps.getD 6 undef=ptrTo bt 0
 t7:a.tmps.getD 7 undef=ptrTo T.b T.o
 t8:a.tmps.getD 8 undef=.int .i64 ((55:Int) - 2*((k:Nat):Int))
 t22:∃ c,28≤c∧a.tmps.getD 22 undef=.slice (some ⟨b3,o3,none⟩) 28 c
 t23:a.tmps.getD 23 undef=.int .i64 28
 t24:a.tmps.getD 24 undef=.int .i64 ((k:Nat):Int)
theorem pick_all {α:Type} (d:α) {n:Nat} {p:Nat→α→Prop} (h:∀ j,j<n→∃ a,p j a):∃ A:Nat→α,∀ j,j<n→p j (A j) :=
 ⟨fun j=>if hj:j<n then Classical.choose (h j hj) else d,fun j hj=>by
  have:=Classical.choose_spec (h j hj)
  show p j (if hj:j<n then Classical.choose (h j hj) else d)
  rw [dif_pos hj]
  exact this⟩
theorem rowOk_of {s:Nums} {β:Places} {n r:Nat} {w:World}:∀ (l:List A0) (k:Nat),(∀ j x,l[j]?=some x→∃ v,w.cell? (at_ β r (k+j))=some v∧x.rep s β n v)→RowOk s β n r w k l
 | [],_,_=>trivial
 | x :: l,k,h=>⟨h 0 x rfl,rowOk_of l (k+1) fun j y hy=>by
   have:=h (j+1) y (by rw [List.getElem?_cons_succ]; exact hy)
   rw [show k+1+j=k+(j+1) by omega]
   exact this⟩
abbrev Q4:=PtR × Nat × Nat × Nat
def q4n (a:Q4):Nat→Nat
 | 0=>a.2.1
 | 1=>a.2.2.1
 | _=>a.2.2.2
def pl51 (b3 o3 bt:Nat) (P T:PtR) (A:Nat→Q4):Places:=fun r=>if r=0 then (b3,o3) else if r<5 then ptPlace P (r - 1) else if r<9 then ptPlace T (r - 5) else if r=9 then (bt,0) else ptPlace (A ((r - 10) / 4)).1 ((r - 10) % 4)
def nm51 (X Y Z X' Y' Z' b:Nat) (A:Nat→Q4):Nums:=fun i=>if i=0 then X else if i=1 then Y else if i=2 then Z else if i=3 then X' else if i=4 then Y' else if i=5 then Z' else if i=6 then b else q4n (A ((i - 7) / 3)) ((i - 7) % 3)
theorem pl51_hi {b3 o3 bt:Nat} {P T:PtR} {A:Nat→Q4} (j c:Nat) (hc:c<4):pl51 b3 o3 bt P T A (10+4*j+c)=ptPlace (A j).1 c:=by
 unfold pl51
 rw [if_neg (by omega),if_neg (by omega),if_neg (by omega),if_neg (by omega),show (10+4*j+c - 10) / 4=j by omega,show (10+4*j+c - 10) % 4=c by omega]
theorem nm51_hi {X Y Z X' Y' Z' b:Nat} {A:Nat→Q4} (j c:Nat) (hc:c<3):nm51 X Y Z X' Y' Z' b A (7+3*j+c)=q4n (A j) c:=by
 unfold nm51
 rw [if_neg (by omega),if_neg (by omega),if_neg (by omega),if_neg (by omega),if_neg (by omega),if_neg (by omega),if_neg (by omega),show (7+3*j+c - 7) / 3=j by omega,show (7+3*j+c - 7) % 3=c by omega]
theorem pts30_mem {s:Nums} {β:Places} {w:World} {A:Nat→Q4} (hβ:∀ j c,j<30→c<4→β (10+4*j+c)=ptPlace (A j).1 c) (hs:∀ j c,j<30→c<3→s (7+3*j+c)=q4n (A j) c)
  (hA:∀ j,j<30→(A j).1.cells w∧(A j).1.val w (A j).2.1 (A j).2.2.1 (A j).2.2.2):∀ m j,j+m=30→MemOk s β 130 w (pts30 (10+4*j) (7+3*j) m)
 | 0,_,_=>trivial
 | m+1,j,hj=>by
  have hj':j<30:=by omega
  obtain ⟨hc,v1,v2,v3,l1,l2,l3⟩:=hA j hj'
  have ih:=pts30_mem hβ hs hA m (j+1) (by omega)
  rw [show 10+4*(j+1)=10+4*j+4 by omega,show 7+3*(j+1)=7+3*j+3 by omega] at ih
  exact ⟨by omega,pt_row (p:=(A j).1) (hβ j 0 hj' (by decide)) (hβ j 1 hj' (by decide)) (hβ j 2 hj' (by decide)) (hβ j 3 hj' (by decide)) hc (by omega),
   by omega,limb_row (hβ j 1 hj' (by decide)) v1 (hs j 0 hj' (by decide)) l1,by omega,limb_row (hβ j 2 hj' (by decide)) v2 (hs j 1 hj' (by decide)) l2,by omega,limb_row (hβ j 3 hj' (by decide)) v3 (hs j 2 hj' (by decide)) l3,ih⟩
theorem tN_L1 (c i:Nat) (hc:c<3):tN L1 c i=7+3*i+c:=by
 unfold tN L1
 rcases (by omega:c=0∨c=1∨c=2) with rfl | rfl | rfl <;> by_cases h:i=0 <;> simp [h] <;> omega
theorem tN_L2 (c i:Nat) (hc:c<3):tN L2 c i=7+3*(15+i)+c:=by
 unfold tN L2
 rcases (by omega:c=0∨c=1∨c=2) with rfl | rfl | rfl <;> by_cases h:i=0 <;> simp [h] <;> omega
theorem take_more {ks:List Nat} {k x:Nat} (h:ks[k]?=some x):ofBytes (ks.take (k+1))=256*ofBytes (ks.take k)+x:=by
 rw [List.take_add_one,h]
 exact ofBytes_snoc _ _
end P224
/- ScalarBaseMult: a round more. -/
namespace P224
open Go Go.RowKit Go.Proofs
set_option maxRecDepth 100000
set_option linter.unusedVariables false
theorem wrB_cases {r:Nat} (h:wrB r=true):r=2∨r=3∨r=4∨r=6∨r=7∨r=8:=by
 simp only [wrB,Bool.or_eq_true,Bool.and_eq_true,decide_eq_true_eq] at h
 omega
theorem wrB_no {r:Nat} (h:wrB r=false):r=0∨r=1∨r=5∨r=9∨10≤r:=by
 simp only [wrB,Bool.or_eq_false_iff,Bool.and_eq_false_imp,decide_eq_true_eq,decide_eq_false_iff_not] at h
 omega
theorem six_wr {b3 o3 bt:Nat} {P T:PtR} {A:Nat→Q4} {r:Nat} (h:wrB r=true):Six P T (pl51 b3 o3 bt P T A r).1:=by
 rcases wrB_cases h with rfl | rfl | rfl | rfl | rfl | rfl
 ·exact .inl rfl
 ·exact .inr (.inl rfl)
 ·exact .inr (.inr (.inl rfl))
 ·exact .inr (.inr (.inr (.inl rfl)))
 ·exact .inr (.inr (.inr (.inr (.inl rfl))))
 ·exact .inr (.inr (.inr (.inr (.inr rfl))))
theorem hi_form {r:Nat} (h:10≤r) (h':r<130):∃ j c,j<30∧c<4∧r=10+4*j+c:=⟨(r - 10) / 4,(r - 10) % 4,by omega,Nat.mod_lt _ (by decide),by omega⟩
theorem not_six_nw {V w:World} {bt b3 o3:Nat} {P T:PtR} {A:Nat→Q4} {ks:List Nat} {k:Nat} (h:Inv51 V w bt P T b3 o3 ks k) (hA:∀ j,j<30→¬ Six P T (A j).1.b∧¬ Six P T (A j).1.bx∧¬ Six P T (A j).1.b2∧¬ Six P T (A j).1.bz) {r:Nat} (hr:r<130) (hw:wrB r=false):¬ Six P T (pl51 b3 o3 bt P T A r).1:=by
 obtain ⟨⟨x1,x2,x3⟩,⟨y1,_⟩,⟨z1,_⟩,⟨u1,_⟩⟩:=h.cross
 obtain ⟨p1,p2,p3,_⟩:=h.pa
 obtain ⟨t1,t2,t3,_⟩:=h.ta
 rcases wrB_no hw with rfl | rfl | rfl | rfl | h10
 ·exact h.soff
 ·intro hs
  rcases hs with e | e | e | e | e | e
  ·exact p1 e
  ·exact p2 e
  ·exact p3 e
  ·exact x1 e
  ·exact x2 e
  ·exact x3 e
 ·intro hs
  rcases hs with e | e | e | e | e | e
  ·exact y1 e.symm
  ·exact z1 e.symm
  ·exact u1 e.symm
  ·exact t1 e
  ·exact t2 e
  ·exact t3 e
 ·exact h.btoff
 ·obtain ⟨j,c,hj,hc,rfl⟩:=hi_form h10 hr
  rw [pl51_hi j c hc]
  obtain ⟨a1,a2,a3,a4⟩:=hA j hj
  rcases (by omega:c=0∨c=1∨c=2∨c=3) with rfl | rfl | rfl | rfl
  ·exact a1
  ·exact a2
  ·exact a3
  ·exact a4
theorem sep51 {V w:World} {bt b3 o3:Nat} {P T:PtR} {A:Nat→Q4} {ks:List Nat} {k:Nat} (h:Inv51 V w bt P T b3 o3 ks k) (hA:∀ j,j<30→¬ Six P T (A j).1.b∧¬ Six P T (A j).1.bx∧¬ Six P T (A j).1.b2∧¬ Six P T (A j).1.bz) :
  ∀ r q,r<130→q<130→fixB.sep r q=true→(pl51 b3 o3 bt P T A r).1≠(pl51 b3 o3 bt P T A q).1:=fun r q hr hq hs=>by
 obtain ⟨hw,hne⟩:(wrB r || wrB q)=true∧r≠q:=by
  have:=Bool.and_eq_true_iff.1 (show ((wrB r || wrB q) && decide (r≠q))=true from hs)
  exact ⟨this.1,of_decide_eq_true this.2⟩
 obtain ⟨_,⟨_,y2,y3,y4⟩,⟨_,z2,z3,z4⟩,⟨_,u2,u3,u4⟩⟩:=h.cross
 obtain ⟨_,_,_,p4,p5,p6⟩:=h.pa
 obtain ⟨_,_,_,t4,t5,t6⟩:=h.ta
 cases h1:wrB r with
 | false =>
  have h2:wrB q=true:=by
   rw [h1] at hw
   exact hw
  intro e
  exact not_six_nw h hA hr h1 (by rw [e]; exact six_wr h2)
 | true =>
  cases h2:wrB q with
  | false =>
   intro e
   exact not_six_nw h hA hq h2 (by rw [← e]; exact six_wr h1)
  | true =>
   rcases wrB_cases h1 with rfl | rfl | rfl | rfl | rfl | rfl <;> rcases wrB_cases h2 with rfl | rfl | rfl | rfl | rfl | rfl <;>
    first
    | exact absurd rfl hne
    | exact p4 | exact p4.symm | exact p5 | exact p5.symm | exact p6 | exact p6.symm
    | exact t4 | exact t4.symm | exact t5 | exact t5.symm | exact t6 | exact t6.symm
    | exact y2 | exact y2.symm | exact y3 | exact y3.symm | exact y4 | exact y4.symm
    | exact z2 | exact z2.symm | exact z3 | exact z3.symm | exact z4 | exact z4.symm
    | exact u2 | exact u2.symm | exact u3 | exact u3.symm | exact u4 | exact u4.symm
end P224
/- ScalarBaseMult: a round more. -/
namespace P224
open Go Go.RowKit Go.Proofs
set_option maxRecDepth 100000
set_option linter.unusedVariables false
theorem rel51 {V w:World} {bt b3 o3:Nat} {P T:PtR} {A:Nat→Q4} {ks:List Nat} {k:Nat} (hk:k<28) (h:Inv51 V w bt P T b3 o3 ks k) {a:Act} (ht:TmB a bt P T b3 o3 k) {X Y Z X' Y' Z' b:Nat} {s:Nums}
  (hx:ks[k]?=some b) (hv:P.val w X Y Z) (htv:T.val w X' Y' Z') (hs:∀ i,i<97→s i=nm51 X Y Z X' Y' Z' b A i)
  (hA:∀ j,j<30→w.cell? ⟨bt,15*(if j<15 then 55 - 2*k else 54 - 2*k)+(if j<15 then j else j - 15),none⟩=some (ptrTo (A j).1.b (A j).1.o)∧((A j).1.cells w∧(A j).1.val w (A j).2.1 (A j).2.2.1 (A j).2.2.2) ∧
   (¬ Six P T (A j).1.b∧¬ Six P T (A j).1.bx∧¬ Six P T (A j).1.b2∧¬ Six P T (A j).1.bz)) (hd:Dec fixB s):Rel fixB s (pl51 b3 o3 bt P T A) w (headSt (tmB k) (memB k) 97 130) a w:=by
 obtain ⟨vx,vy,vz,lx,ly,lz⟩:=hv
 obtain ⟨ux,uy,uz,mx,my,mz⟩:=htv
 obtain ⟨⟨m1,m2,m3⟩,n1,n2,n3⟩:=h.pr
 obtain ⟨⟨m4,m5,m6⟩,n4,n5,n6⟩:=h.tr
 have hlP:P.b<w.heap.size:=World.block_lt_of_cell? w _ h.pc.1
 have hlT:T.b<w.heap.size:=World.block_lt_of_cell? w _ h.tc.1
 have hl3:b3<w.heap.size:=World.block_lt_of_cell? w _ (h.sc k b hx).1
 have hlt:bt<w.heap.size:=World.block_lt_of_cell? w _ (hA 0 (by decide)).1
 have tabC:∀ i,i<840→∃ v,w.cell? ⟨bt,i,none⟩=some v:=fun i hi=>by
  obtain ⟨q,hq,_⟩:=h.rows (i / 15) (by omega) (i % 15) (Nat.mod_lt _ (by decide))
  rw [show 15*(i / 15)+i % 15=i by omega] at hq
  exact ⟨_,hq⟩
 have pA:∀ j,j<30→pl51 b3 o3 bt P T A (10+4*j)=((A j).1.b,(A j).1.o):=fun j hj=>pl51_hi j 0 (by decide)
 have hmem:MemOk s (pl51 b3 o3 bt P T A) 130 w (memB k):=by
  refine ⟨show 0<130 by decide,rowOk_of _ 0 fun j x hj=>?_,show 1<130 by decide,pt_row (p:=P) rfl rfl rfl rfl h.pc (by decide),show 2<130 by decide,limb_row rfl vx (hs 0 (by decide)) lx,show 3<130 by decide,limb_row rfl vy (hs 1 (by decide)) ly,show 4<130 by decide,limb_row rfl vz (hs 2 (by decide)) lz,
   show 5<130 by decide,pt_row (p:=T) rfl rfl rfl rfl h.tc (by decide),show 6<130 by decide,limb_row rfl ux (hs 3 (by decide)) mx,show 7<130 by decide,limb_row rfl uy (hs 4 (by decide)) my,show 8<130 by decide,limb_row rfl uz (hs 5 (by decide)) mz,
   show 9<130 by decide,rowOk_of _ 0 fun j x hj=>?_,pts30_mem (A:=A) (fun j c _ hc=>pl51_hi j c hc) (fun j c hj hc=>(hs _ (by omega)).trans (nm51_hi j c hc)) (fun j hj=>(hA j hj).2.1) 30 0 rfl⟩
  ·have hj28:j<28:=by
    have:=List.getElem?_eq_some_iff.1 hj
    obtain ⟨h1,_⟩:=this
    rw [byteRow,List.length_map,List.length_range] at h1
    exact h1
   rw [byteRow,List.getElem?_map,List.getElem?_range hj28] at hj
   have hx':(if j=k then A0.num .u8 6 else .any)=x:=by injection hj
   obtain ⟨y,hy⟩:∃ y,ks[j]?=some y:=⟨ks[j]'(by rw [h.len]; exact hj28),List.getElem?_eq_getElem _⟩
   obtain ⟨c1,c2⟩:=h.sc j y hy
   refine ⟨_,by rw [Nat.zero_add]; exact c1,?_⟩
   by_cases e:j=k
   ·subst e
    rw [if_pos rfl] at hx'
    subst hx'
    rw [hx] at hy
    cases hy
    have h6:s 6=b:=hs 6 (by decide)
    exact ⟨by rw [h6],by rw [h6]; exact c2⟩
   ·rw [if_neg e] at hx'
    subst hx'
    trivial
  ·have hj840:j<840:=by
    have:=List.getElem?_eq_some_iff.1 hj
    obtain ⟨h1,_⟩:=this
    rw [tabRows,List.length_map,List.length_range] at h1
    exact h1
   rw [tabRows,List.getElem?_map,List.getElem?_range hj840] at hj
   have hx':(if 15*(55 - 2*k)≤j∧j<15*(55 - 2*k)+15 then A0.ptr (10+4*(j - 15*(55 - 2*k))) 0 else if 15*(54 - 2*k)≤j∧j<15*(54 - 2*k)+15 then .ptr (70+4*(j - 15*(54 - 2*k))) 0 else .any)=x:=by injection hj
   have at9:at_ (pl51 b3 o3 bt P T A) 9 (0+j)=⟨bt,j,none⟩:=by
    show (⟨bt,0+(0+j),none⟩:Addr)=_
    rw [Nat.zero_add,Nat.zero_add]
   rw [at9]
   by_cases e1:15*(55 - 2*k)≤j∧j<15*(55 - 2*k)+15
   ·rw [if_pos e1] at hx'
    subst hx'
    obtain ⟨c1,_⟩:=hA (j - 15*(55 - 2*k)) (by omega)
    rw [if_pos (by omega),if_pos (by omega),show 15*(55 - 2*k)+(j - 15*(55 - 2*k))=j by omega] at c1
    refine ⟨_,c1,?_,by omega⟩
    rw [at_,pA _ (by omega)]
    rfl
   ·rw [if_neg e1] at hx'
    by_cases e2:15*(54 - 2*k)≤j∧j<15*(54 - 2*k)+15
    ·rw [if_pos e2] at hx'
     subst hx'
     obtain ⟨c1,_⟩:=hA (15+(j - 15*(54 - 2*k))) (by omega)
     rw [if_neg (by omega),if_neg (by omega),show 15*(54 - 2*k)+(15+(j - 15*(54 - 2*k)) - 15)=j by omega] at c1
     refine ⟨_,c1,?_,by omega⟩
     rw [at_,show 70+4*(j - 15*(54 - 2*k))=10+4*(15+(j - 15*(54 - 2*k))) by omega,pA _ (by omega)]
     rfl
    ·rw [if_neg e2] at hx'
     subst hx'
     obtain ⟨v,hv⟩:=tabC j hj840
     exact ⟨v,hv,trivial⟩
 refine rel_here ht.size ht.defs (fun e he=>?_) hmem (fun r l hl hw j hj=>?_) (fun r hr=>?_) (sep51 h fun j hj=>(hA j hj).2.2) hd fun _=>rfl
 ·simp only [tmB,List.mem_cons,List.not_mem_nil,or_false] at he
  rcases he with rfl | rfl | rfl | rfl | rfl | rfl | rfl
  ·exact ⟨ht.t0,show 1<130 by decide⟩
  ·exact ⟨ht.t6,show 9<130 by decide⟩
  ·exact ⟨ht.t7,show 5<130 by decide⟩
  ·exact ht.t8
  ·obtain ⟨c,hc,hv⟩:=ht.t22
   exact ⟨c,hc,hv,show 0<130 by decide⟩
  ·exact ht.t23
  ·exact ht.t24
 ·rcases wrB_cases hw with rfl | rfl | rfl | rfl | rfl | rfl
  ·cases (show some (limbs 0)=some l from hl); exact (m1 j hj).2
  ·cases (show some (limbs 1)=some l from hl); exact (m2 j hj).2
  ·cases (show some (limbs 2)=some l from hl); exact (m3 j hj).2
  ·cases (show some (limbs 3)=some l from hl); exact (m4 j hj).2
  ·cases (show some (limbs 4)=some l from hl); exact (m5 j hj).2
  ·cases (show some (limbs 5)=some l from hl); exact (m6 j hj).2
 ·have hr':r<130:=hr
  by_cases h10:10≤r
  ·obtain ⟨j,c,hj,hc,rfl⟩:=hi_form h10 hr'
   rw [pl51_hi j c hc]
   obtain ⟨hcl,g1,g2,g3,_⟩:=(hA j hj).2.1
   exact ptPlace_lt hcl (World.block_lt_of_cell? w _ (g1 0 (by decide))) (World.block_lt_of_cell? w _ (g2 0 (by decide))) (World.block_lt_of_cell? w _ (g3 0 (by decide))) c
  ·rcases (by omega:r=0∨r=1∨r=2∨r=3∨r=4∨r=5∨r=6∨r=7∨r=8∨r=9) with rfl | rfl | rfl | rfl | rfl | rfl | rfl | rfl | rfl | rfl
   ·exact hl3
   ·exact hlP
   ·exact n1
   ·exact n2
   ·exact n3
   ·exact hlT
   ·exact n4
   ·exact n5
   ·exact n6
   ·exact hlt
end P224
/- ScalarBaseMult: a round more, and all of them. -/
namespace P224
open Go Go.RowKit Go.Proofs
set_option maxRecDepth 100000
set_option linter.unusedVariables false
theorem exB_len:exB.length=16:=by decide +kernel
theorem round_step {V w:World} {bt b3 o3:Nat} {P T:PtR} {ks:List Nat} {k:Nat} (hk:k<28) (hrun:RoundRun k) (h:Inv51 V w bt P T b3 o3 ks k) {a:Act} (ht:TmB a bt P T b3 o3 k) {Q:Exit→Act→World→Prop}
  (hn:∀ a' w',TmB a' bt P T b3 o3 (k+1)→Inv51 V w' bt P T b3 o3 ks (k+1)→Q .normal a' w'):bK.wp Try.prog Q a w:=by
 obtain ⟨b,hx⟩:∃ b,ks[k]?=some b:=⟨ks[k]'(by rw [h.len]; exact hk),List.getElem?_eq_getElem _⟩
 obtain ⟨X,Y,Z,hv,hrep⟩:=h.val
 obtain ⟨X',Y',Z',htv⟩:=h.tval
 obtain ⟨A,hA⟩:=pick_all (⟨⟨0,0,0,0,0,0,0,0⟩,0,0,0⟩:Q4) (n:=30) (p:=fun j a=>w.cell? ⟨bt,15*(if j<15 then 55 - 2*k else 54 - 2*k)+(if j<15 then j else j - 15),none⟩=some (ptrTo a.1.b a.1.o)∧(a.1.cells w∧a.1.val w a.2.1 a.2.2.1 a.2.2.2) ∧
   (¬ Six P T a.1.b∧¬ Six P T a.1.bx∧¬ Six P T a.1.b2∧¬ Six P T a.1.bz)∧Rep (toTri pp (a.2.1,a.2.2.1,a.2.2.2)) (nsmul ((if j<15 then j else j - 15)+1) (nsmul (16 ^ (if j<15 then 55 - 2*k else 54 - 2*k)) gg)))
  (fun j hj=>by
   obtain ⟨q,hq,hQ⟩:=h.rows (if j<15 then 55 - 2*k else 54 - 2*k) (by split <;> omega) (if j<15 then j else j - 15) (by split <;> omega)
   obtain ⟨X,Y,Z,hv,hr⟩:=hQ.nums
   exact ⟨(q,X,Y,Z),hq,⟨hQ.cells,hv⟩,hQ.off,hr⟩)
 obtain ⟨s,hH,hs0⟩:=exists_nums (nm51 X Y Z X' Y' Z' b A) (l:=exB) (n:=113) (by decide +kernel) (by decide +kernel)
 have hs:∀ i,i<97→s i=nm51 X Y Z X' Y' Z' b A i:=fun i hi=>hs0 i (by rw [exB_len]; exact hi)
 have h0:RN s 0 1 2 (nsmul (ofBytes (ks.take k)*16 ^ (54 - 2*k+2)) gg):=by
  show Rep (toTri pp (s 0,s 1,s 2)) _
  rw [hs 0 (by decide),hs 1 (by decide),hs 2 (by decide),show 54 - 2*k+2=56 - 2*k by omega]
  exact hrep
 have h1:TabOk L1 s (nsmul (16 ^ (54 - 2*k+1)) gg):=fun i hi=>by
  obtain ⟨_,_,_,hr⟩:=hA i (by omega)
  rw [if_pos hi,if_pos hi,show 55 - 2*k=54 - 2*k+1 by omega] at hr
  rw [tN_L1 0 i (by decide),tN_L1 1 i (by decide),tN_L1 2 i (by decide)]
  show Rep (toTri pp (s (7+3*i+0),s (7+3*i+1),s (7+3*i+2))) _
  rw [hs _ (by omega),hs _ (by omega),hs _ (by omega),nm51_hi i 0 (by decide),nm51_hi i 1 (by decide),nm51_hi i 2 (by decide)]
  exact hr
 have h2:TabOk L2 s (nsmul (16 ^ (54 - 2*k)) gg):=fun i hi=>by
  obtain ⟨_,_,_,hr⟩:=hA (15+i) (by omega)
  rw [if_neg (by omega),if_neg (by omega),show 15+i - 15=i by omega] at hr
  rw [tN_L2 0 i (by decide),tN_L2 1 i (by decide),tN_L2 2 i (by decide)]
  show Rep (toTri pp (s (7+3*(15+i)+0),s (7+3*(15+i)+1),s (7+3*(15+i)+2))) _
  rw [hs _ (by omega),hs _ (by omega),hs _ (by omega),nm51_hi (15+i) 0 (by decide),nm51_hi (15+i) 1 (by decide),nm51_hi (15+i) 2 (by decide)]
  exact hr
 have h6:s 6=b:=hs 6 (by decide)
 obtain ⟨r1,d1,d2⟩:=exB_ok h0 h1 h2 (by rw [h6]; exact (h.sc k b hx).2) hH
 have hd:Dec fixB s:=fun i c hc=>by
  have hm:=findT_mem (show findT i [(98,true),(106,true)]=some c from hc)
  simp only [List.mem_cons,List.not_mem_nil,or_false,Prod.mk.injEq] at hm
  rcases hm with ⟨rfl,rfl⟩|⟨rfl,rfl⟩
  ·exact d1
  ·exact d2
 have hr:=rel51 hk h ht hx hv htv hs (fun j hj=>⟨(hA j hj).1,(hA j hj).2.1,(hA j hj).2.2.1⟩) hd
 obtain ⟨st',hst,hchk,hnx,hexs,htm,hmm⟩:=peekT_spec hrun
 refine run_wp (tabX_ok pointPrims_ok xb6_ok) hr hst (by rw [hnx,hexs]; exact hH) fun β a' w' hag hr'=>?_
 have hb:∀ r,r<130→β r=pl51 b3 o3 bt P T A r:=fun r hr=>hag r hr
 have b0':=hb 0 (by decide)
 have b1':=hb 1 (by decide)
 have b2':=hb 2 (by decide)
 have b3':=hb 3 (by decide)
 have b4':=hb 4 (by decide)
 have b5':=hb 5 (by decide)
 have b6':=hb 6 (by decide)
 have b7':=hb 7 (by decide)
 have b8':=hb 8 (by decide)
 have b9':=hb 9 (by decide)
 injection htm with g0 htm
 injection htm with g6 htm
 injection htm with g7 htm
 injection htm with g8 htm
 injection htm with g22 htm
 injection htm with g23 htm
 injection htm with g24 htm
 injection hmm with m1 hmm
 injection hmm with m2 hmm
 injection hmm with m3 hmm
 injection hmm with m4 hmm
 injection hmm with m5 hmm
 injection hmm with m6 hmm
 injection hmm with m7 hmm
 injection hmm with m8 hmm
 have hbelow:=hr'.below
 have blk:∀ e ∈ st'.out,Six P T (β e.1).1:=fun e he=>by
  have hw:wrB e.1=true:=List.all_eq_true.1 hchk e he
  have hlt:e.1<130:=by
   have:=wrB_cases hw
   omega
  rw [hb _ hlt]
  exact six_wr hw
 have same:∀ p:Addr,p.block<w.heap.size→¬ Six P T p.block→w'.cell? p=w.cell? p:=fun p hp h6=>by
  rw [hbelow.cell hp]
  exact applyOut_cell fun e he hE=>h6 (by
   have:=blk e he
   rw [show (β e.1).1=p.block by rw [← hE]; rfl] at this
   exact this)
 have lt_of:∀ {p:Addr} {v:Value},w.cell? p=some v→p.block<w.heap.size:=fun hv=>World.block_lt_of_cell? w _ hv
 have kp:∀ {p:Addr} {v:Value},w.cell? p=some v→¬ Six P T p.block→w'.cell? p=some v:=fun hv h6=>by
  rw [same _ (lt_of hv) h6]
  exact hv
 have rm:∀ {c o:Nat},c<w.heap.size→RoomAt w c o→RoomAt w' c o:=fun {c o} hp hm j hj=>by
  refine ⟨?_,?_⟩
  ·rw [hbelow.cell (p:=⟨c,o+j,none⟩) hp]
   exact applyOut_some (hm j hj).1
  ·rw [hbelow.frozen (p:=⟨c,o+j,none⟩) hp,applyOut_frozen]
   exact (hm j hj).2
 obtain ⟨⟨y1,y2,y3⟩,n1,n2,n3⟩:=h.pr
 obtain ⟨⟨y4,y5,y6⟩,n4,n5,n6⟩:=h.tr
 have hsz:=hr'.size_le
 obtain ⟨x2,l2⟩:=limbs_el hr' m2
 obtain ⟨x3,l3⟩:=limbs_el hr' m3
 obtain ⟨x4,l4⟩:=limbs_el hr' m4
 obtain ⟨x6,l6⟩:=limbs_el hr' m6
 obtain ⟨x7,l7⟩:=limbs_el hr' m7
 obtain ⟨x8,l8⟩:=limbs_el hr' m8
 rw [b2'] at x2
 rw [b3'] at x3
 rw [b4'] at x4
 rw [b6'] at x6
 rw [b7'] at x7
 rw [b8'] at x8
 obtain ⟨c1,_⟩:=ptr_cell hr' m1 (j:=0) (q:=2) rfl
 obtain ⟨c2,_⟩:=ptr_cell hr' m1 (j:=1) (q:=3) rfl
 obtain ⟨c3,_⟩:=ptr_cell hr' m1 (j:=2) (q:=4) rfl
 obtain ⟨c5,_⟩:=ptr_cell hr' m5 (j:=0) (q:=6) rfl
 obtain ⟨c6,_⟩:=ptr_cell hr' m5 (j:=1) (q:=7) rfl
 obtain ⟨c7,_⟩:=ptr_cell hr' m5 (j:=2) (q:=8) rfl
 rw [at_,b1',b2'] at c1
 rw [at_,b1',b3'] at c2
 rw [at_,b1',b4'] at c3
 rw [at_,b5',b6'] at c5
 rw [at_,b5',b7'] at c6
 rw [at_,b5',b8'] at c7
 refine hn a' w' ⟨hr'.size,hr'.defs,?_,?_,?_,hr'.tm 8 _ g8,?_,hr'.tm 23 _ g23,hr'.tm 24 _ g24⟩ ?_
 ·have:=(hr'.tm 0 _ g0).1
  rw [at_,b1'] at this
  exact this
 ·have:=(hr'.tm 6 _ g6).1
  rw [at_,b9'] at this
  exact this
 ·have:=(hr'.tm 7 _ g7).1
  rw [at_,b5'] at this
  exact this
 ·obtain ⟨c,hc,hcv,_⟩:=hr'.tm 22 _ g22
  rw [at_,b0'] at hcv
  exact ⟨c,hc,hcv⟩
 ·refine {
       below:=?_,pc:=⟨c1,c2,c3⟩,tc:=⟨c5,c6,c7⟩,pr:=⟨⟨rm n1 y1,rm n2 y2,rm n3 y3⟩,Nat.lt_of_lt_of_le n1 hsz,Nat.lt_of_lt_of_le n2 hsz,Nat.lt_of_lt_of_le n3 hsz⟩,tr:=⟨⟨rm n4 y4,rm n5 y5,rm n6 y6⟩,Nat.lt_of_lt_of_le n4 hsz,Nat.lt_of_lt_of_le n5 hsz,Nat.lt_of_lt_of_le n6 hsz⟩
       pa:=h.pa,ta:=h.ta,cross:=h.cross,new:=h.new,val:=⟨_,_,_,⟨x2,x3,x4,l2,l3,l4⟩,?_⟩,tval:=⟨_,_,_,x6,x7,x8,l6,l7,l8⟩,rows:=fun i hi j hj=>?_,btoff:=h.btoff,len:=h.len,sc:=fun i x hi=>?_,soff:=h.soff }
  ·exact (applyOut_below (s:=s) (β:=β) h.below fun e he=>h.new _ (blk e he)).trans (hbelow.mono h.below.size)
  ·rw [take_more hx,← h6,show 56 - 2*(k+1)=54 - 2*k by omega]
   exact r1
  ·obtain ⟨q,hq,hQ⟩:=h.rows i hi j hj
   obtain ⟨X2,Y2,Z2,⟨v1,v2,v3,w1,w2,w3⟩,hrq⟩:=hQ.nums
   obtain ⟨o1,o2,o3',o4⟩:=hQ.off
   obtain ⟨q1,q2,q3⟩:=hQ.cells
   exact ⟨q,kp hq h.btoff,⟨kp q1 o1,kp q2 o1,kp q3 o1⟩,⟨X2,Y2,Z2,⟨fun k hk=>kp (v1 k hk) o2,fun k hk=>kp (v2 k hk) o3',fun k hk=>kp (v3 k hk) o4,w1,w2,w3⟩,hrq⟩,hQ.off⟩
  ·obtain ⟨e1,e2⟩:=h.sc i x hi
   exact ⟨kp e1 h.soff,e2⟩
end P224
/- ScalarBaseMult: all rounds, and the end. -/
namespace P224
open Go Go.RowKit Go.Proofs
set_option maxRecDepth 100000
set_option linter.unusedVariables false
def fixZ:Fix:={ nt:=60,nold:=4,wr:=fun _=>false,sep:=fun _ _=>false,dec:=fun _=>none }
def tmZ:List (Nat × AV):=[(0,.one (.ptr 1 0)),(6,.one (.ptr 2 0)),(7,.one (.ptr 3 0)),(8,.one (.lit (.int .i64 ((55:Int) - 2*((28:Nat):Int))))),(22,.one (.sl 0 0 28)),(23,.one (.lit (.int .i64 28))),(24,.one (.lit (.int .i64 ((28:Nat):Int))))]
theorem exit51:peekL (tabX true pointPrims xb6) fixZ 3000 [bK] (headSt tmZ [] 0 4) [0,6,7,8,22,23,24] []=some ⟨.exit 0,0,[],tmZ.map fun e=>some e.2,[]⟩:=by kernel_rfl
theorem end51:briefR (tabX true pointPrims xb6) Try.f51 [] (run (tabX true pointPrims xb6) fixZ 3000 bZ (headSt tmZ [] 0 4))=some ⟨.ret,0,[],[],[.one (.ptr 1 0),.one (.lit .nilIface)],[]⟩:=by kernel_rfl
def plZ (b3 o3 bt:Nat) (P T:PtR):Places:=fun r=>if r=0 then (b3,o3) else if r=1 then (P.b,P.o) else if r=2 then (bt,0) else (T.b,T.o)
theorem Inv51.mono {V w w':World} {bt b3 o3:Nat} {P T:PtR} {ks:List Nat} {k:Nat} (h:Inv51 V w bt P T b3 o3 ks k) (hb:Below w.heap.size w w'):Inv51 V w' bt P T b3 o3 ks k:=by
 have kp:∀ {p:Addr} {v:Value},w.cell? p=some v→w'.cell? p=some v:=fun hv=>by
  rw [hb.cell (World.block_lt_of_cell? w _ hv)]
  exact hv
 have rm:∀ {c o:Nat},c<w.heap.size→RoomAt w c o→RoomAt w' c o:=fun {c o} hp hm j hj=>by
  rw [hb.cell (p:=⟨c,o+j,none⟩) hp,hb.frozen (p:=⟨c,o+j,none⟩) hp]
  exact hm j hj
 have vl:∀ {q:PtR} {X Y Z:Nat},q.val w X Y Z→q.val w' X Y Z:=fun hv=>by
  obtain ⟨v1,v2,v3,l⟩:=hv
  exact ⟨fun k hk=>kp (v1 k hk),fun k hk=>kp (v2 k hk),fun k hk=>kp (v3 k hk),l⟩
 have cl:∀ {q:PtR},q.cells w→q.cells w':=fun hc=>⟨kp hc.1,kp hc.2.1,kp hc.2.2⟩
 have ro:∀ {q:PtR},q.room w→q.room w':=fun hr=>by
  obtain ⟨⟨y1,y2,y3⟩,n1,n2,n3⟩:=hr
  exact ⟨⟨rm n1 y1,rm n2 y2,rm n3 y3⟩,Nat.lt_of_lt_of_le n1 hb.size,Nat.lt_of_lt_of_le n2 hb.size,Nat.lt_of_lt_of_le n3 hb.size⟩
 obtain ⟨X,Y,Z,hv,hrep⟩:=h.val
 obtain ⟨X',Y',Z',htv⟩:=h.tval
 exact {
     below:=h.below.trans (hb.mono h.below.size),pc:=cl h.pc,tc:=cl h.tc,pr:=ro h.pr,tr:=ro h.tr,pa:=h.pa,ta:=h.ta,cross:=h.cross,new:=h.new,val:=⟨X,Y,Z,vl hv,hrep⟩,tval:=⟨X',Y',Z',vl htv⟩
     rows:=fun i hi j hj=>by
      obtain ⟨q,hq,hQ⟩:=h.rows i hi j hj
      obtain ⟨X2,Y2,Z2,hv2,hr2⟩:=hQ.nums
      exact ⟨q,kp hq,cl hQ.cells,⟨X2,Y2,Z2,vl hv2,hr2⟩,hQ.off⟩
     btoff:=h.btoff,len:=h.len,sc:=fun i x hi=>⟨kp (h.sc i x hi).1,(h.sc i x hi).2⟩,soff:=h.soff }
theorem relZ {V w:World} {bt b3 o3:Nat} {P T:PtR} {ks:List Nat} (h:Inv51 V w bt P T b3 o3 ks 28) {a:Act} (ht:TmB a bt P T b3 o3 28) (s:Nums):Rel fixZ s (plZ b3 o3 bt P T) w (headSt tmZ [] 0 4) a w:=by
 obtain ⟨x,hx⟩:∃ x,ks[0]?=some x:=⟨ks[0]'(by rw [h.len]; decide),List.getElem?_eq_getElem _⟩
 obtain ⟨q,hq,_⟩:=h.rows 0 (by decide) 0 (by decide)
 refine rel_here ht.size ht.defs (fun e he=>?_) trivial (fun r l hl hw j hj=>by cases hl) (fun r _=>?_) (fun r q _ _ hs=>by cases hs) (fun i b hb=>by cases hb) fun _=>rfl
 ·simp only [tmZ,List.mem_cons,List.not_mem_nil,or_false] at he
  rcases he with rfl | rfl | rfl | rfl | rfl | rfl | rfl
  ·exact ⟨ht.t0,show 1<4 by decide⟩
  ·exact ⟨ht.t6,show 2<4 by decide⟩
  ·exact ⟨ht.t7,show 3<4 by decide⟩
  ·exact ht.t8
  ·obtain ⟨c,hc,hv⟩:=ht.t22
   exact ⟨c,hc,hv,show 0<4 by decide⟩
  ·exact ht.t23
  ·exact ht.t24
 ·show (if r=0 then (b3,o3) else if r=1 then (P.b,P.o) else if r=2 then (bt,0) else (T.b,T.o)).1<_
  repeat' split
  ·exact World.block_lt_of_cell? w _ (h.sc 0 x hx).1
  ·exact World.block_lt_of_cell? w _ h.pc.1
  ·exact World.block_lt_of_cell? w _ hq
  ·exact World.block_lt_of_cell? w _ h.tc.1
theorem exit_wp51 {V w:World} {bt b3 o3:Nat} {P T:PtR} {ks:List Nat} (h:Inv51 V w bt P T b3 o3 ks 28) {a:Act} (ht:TmB a bt P T b3 o3 28) {Q:Exit→Act→World→Prop} (hn:∀ a' w',TmB a' bt P T b3 o3 28→Inv51 V w' bt P T b3 o3 ks 28→Q (.exit 0) a' w'):bK.wp Try.prog Q a w:=by
 obtain ⟨st',hst,hout,hnx,hexs,htm,_⟩:=peekL_spec exit51
 refine runL_reach (l:=[bK]) (tabX_ok pointPrims_ok xb6_ok) (relZ h ht fun _=>0) hst (by rw [hnx,hexs]; trivial) fun β a' w' hag hr'=>?_
 have b0':β 0=plZ b3 o3 bt P T 0:=hag 0 (show 0<4 by decide)
 have b1':β 1=plZ b3 o3 bt P T 1:=hag 1 (show 1<4 by decide)
 have b2':β 2=plZ b3 o3 bt P T 2:=hag 2 (show 2<4 by decide)
 have b3':β 3=plZ b3 o3 bt P T 3:=hag 3 (show 3<4 by decide)
 injection htm with g0 htm
 injection htm with g6 htm
 injection htm with g7 htm
 injection htm with g8 htm
 injection htm with g22 htm
 injection htm with g23 htm
 injection htm with g24 htm
 refine hn a' w' ⟨hr'.size,hr'.defs,?_,?_,?_,hr'.tm 8 _ g8,?_,hr'.tm 23 _ g23,hr'.tm 24 _ g24⟩ (h.mono ?_)
 ·have:=(hr'.tm 0 _ g0).1
  rw [at_,b1'] at this
  exact this
 ·have:=(hr'.tm 6 _ g6).1
  rw [at_,b2'] at this
  exact this
 ·have:=(hr'.tm 7 _ g7).1
  rw [at_,b3'] at this
  exact this
 ·obtain ⟨c,hc,hcv,_⟩:=hr'.tm 22 _ g22
  rw [at_,b0'] at hcv
  exact ⟨c,hc,hcv⟩
 ·have:=hr'.below
  rw [hout] at this
  exact this
theorem loop51 {V:World} {bt b3 o3:Nat} {P T:PtR} {ks:List Nat} {Q:Exit→Act→World→Prop} (hn:∀ a' w',TmB a' bt P T b3 o3 28→Inv51 V w' bt P T b3 o3 ks 28→Q (.exit 0) a' w') :
  ∀ (m k:Nat),k+m=28→∀ {a:Act} {w:World},TmB a bt P T b3 o3 k→Inv51 V w bt P T b3 o3 ks k→Code.rounds Try.prog bK Q (m+1) a w
 | 0,k,hk,a,w,ht,h=>by
  have:k=28:=by omega
  subst this
  show bK.wp Try.prog (Exit.then (Code.rounds Try.prog bK Q 0) Q) a w
  exact exit_wp51 h ht hn
 | m+1,k,hk,a,w,ht,h=>by
  show bK.wp Try.prog (Exit.then (Code.rounds Try.prog bK Q (m+1)) Q) a w
  exact round_step (by omega) (roundRuns k (by omega)) h ht fun a' w' ht' h'=>loop51 hn m (k+1) (by omega) ht' h'
structure Out51 (V w:World) (P:PtR) (g:Pt pp):Prop where
 below:Below V.heap.size V w
 pc:P.cells w
 val:∃ X Y Z,P.val w X Y Z∧Rep (toTri pp (X,Y,Z)) g
theorem Inv51.out {V w:World} {bt b3 o3:Nat} {P T:PtR} {ks:List Nat} (h:Inv51 V w bt P T b3 o3 ks 28):Out51 V w P (nsmul (ofBytes ks) gg):=by
 refine ⟨h.below,h.pc,?_⟩
 have:=h.val
 rw [List.take_of_length_le (Nat.le_of_eq h.len),Nat.mul_one] at this
 exact this
theorem from_head {V w:World} {bt b3 o3:Nat} {P T:PtR} {ks:List Nat} (h:Inv51 V w bt P T b3 o3 ks 0) {a:Act} (ht:TmB a bt P T b3 o3 0) {R:Value→World→Prop} (hR:∀ w',Out51 V w' P (nsmul (ofBytes ks) gg)→R (.tuple #[ptrTo P.b P.o,.nilIface]) w') :
  (Code.block 0 (.loop bK)).wp Try.prog (Exit.then (bZ.wp Try.prog (bodyPost Try.prog Try.f51 fun e w''=>∃ r,e=.returned r∧R r w'')) (bodyPost Try.prog Try.f51 fun e w''=>∃ r,e=.returned r∧R r w'')) a w:=by
 refine wp_block (wp_loop_rounds 29 ?_)
 refine loop51 (fun a2 w2 ht2 h2=>?_) 28 0 rfl ht h
 show bZ.wp Try.prog (bodyPost Try.prog Try.f51 _) a2 w2
 obtain ⟨st2,hrun2,n1,n2,n3,hres,_⟩:=briefR_spec end51
 refine run_wp (tabX_ok pointPrims_ok xb6_ok) (relZ h2 ht2 fun _=>0) hrun2 (by rw [n1,n2]; trivial) fun β3 a3 w3 hag3 hr3=>?_
 obtain ⟨v3,hv1,hv2⟩:=results_run (tabX_ok pointPrims_ok xb6_ok) hr3 hres
 have hb3:=hr3.below
 rw [n3] at hb3
 have e1:β3 1=plZ b3 o3 bt P T 1:=hag3 1 (show 1<4 by decide)
 have hv3:v3=.tuple #[ptrTo P.b P.o,.nilIface]:=by
  obtain ⟨us,rfl,hu⟩:=hv2
  match us,hu with
  | [u1,u2],hu =>
   have k1:u1=.pointer (some (at_ β3 1 0)):=hu.1.1
   have k2:u2=.nilIface:=hu.2.1
   rw [k1,k2,at_,e1]
   rfl
 rw [hv3] at hv1
 exact ⟨hr3.defs,_,hv1,_,rfl,hR w3 (h2.mono hb3).out⟩
end P224
