/- The reference's Multiple: how it begins and how it ends. -/
import Derived.Test.YtccmmkgiamcgeaaGZ0
import Derived.Test.YtccmmkgiamcgeaaGP7
import Derived.Test.YtccmmkgiamcgeaaGV13
import Derived.Test.YtccmmkgiamcgeaaGV16
import Derived.Test.YtccmmkgiamcgeaaGL5
set_option linter.all false
namespace P224
open Go Go.RowKit Go.Proofs
set_option maxRecDepth 100000
set_option linter.unusedVariables false
def peekS (T:Tab) (F:Fix) (f:Nat) (l:List Code) (st:St) (m:Nat) (ts rs:List Nat):Option Pk :=
 match runL T F f l st with
 | some (o,st')=>bif st'.out.isEmpty && decide (m≤st'.nr) then some ⟨o,st'.nx,st'.exs,ts.map st'.tm.get,rs.map fun r=>lookup r st'.mem⟩ else none
 | none=>none
theorem peekS_spec {T:Tab} {F:Fix} {f:Nat} {l:List Code} {st:St} {m:Nat} {ts rs:List Nat} {p:Pk} (h:peekS T F f l st m ts rs=some p) :
  ∃ st',runL T F f l st=some (p.o,st')∧st'.out=[]∧st'.nx=p.nx∧st'.exs=p.exs∧m≤st'.nr∧ts.map st'.tm.get=p.tms∧(rs.map fun r=>lookup r st'.mem)=p.mems:=by
 unfold peekS at h
 split at h
 ·rename_i o st' hr
  rw [cond_eq_ite] at h
  split at h
  ·rename_i he
   cases h
   simp only [Bool.and_eq_true,decide_eq_true_eq] at he
   exact ⟨st',hr,List.isEmpty_iff.1 he.1,rfl,rfl,he.2,rfl,rfl⟩
  ·cases h
 ·cases h
def st24 (N:Nat):St:=startSt [curveAV 0,.one (.sl 3 0 N),.agg [.lit (.bool false),.slc 1 0 7 7,.slc 2 0 7 7]] [(0,foldCells),(1,l32s 0),(2,l32s 1),(3,numsFrom .u8 7 N)] (7+N) 4
def ρs (i:Nat):Nat:=if i=7 then 13 else if i=9 then 10 else if i=10 then 12 else i
def Starts (N:Nat):Prop :=
 peekS (tabM xb1) (fixH 74 4 []) 3000 [k0,k1,k3,k4] (st24 N) 14 ((tmO N 0).map fun e=>e.1) ((memH hC).map fun e=>ρs e.1)=some ⟨.normal,7+N,[],(tmO N 0).map fun e=>some (e.2.rn ρs id),memR hC ρs id⟩
theorem starts28:Starts 28:=by unfold Starts; kernel_rfl
theorem starts1:Starts 1:=by unfold Starts; kernel_rfl
def farE (Z:Wd):List Ex:=[.feq Z (.c 0)]
def affE (X Y Z:Wd):List Ex:=[.fmul Y (.v 11),.fmul (.v 9) (.v 8),.fmul X (.v 9),.fmul (.v 8) (.v 8),.finv Z,.feq Z (.c 0)]
def farAV:AV:=.agg [.lit (.bool true),.lit (.slice none 0 0),.lit (.slice none 0 0)]
def affAV:AV:=.agg [.lit (.bool false),.slc 15 0 7 14,.slc 17 0 7 14]
def EndF (N:Nat) (h:Hd):Prop:=briefR (tabM xb1) Try.f24 [] (run (tabM xb1) (fixH 74 4 [(7,true)]) 3000 kP (headSt (tmO N N) (memH h) 7 11))=some ⟨.ret,8,farE h.Z,[],[farAV],[]⟩
def EndA (N:Nat) (h:Hd):Prop:=briefR (tabM xb1) Try.f24 [15,17] (run (tabM xb1) (fixH 74 4 [(7,false)]) 3000 kP (headSt (tmO N N) (memH h) 7 11))=some ⟨.ret,13,affE h.X h.Y h.Z,[],[affAV],[some (l32s 10),some (l32s 12)]⟩
theorem endF (N:Nat) {h:Hd} (hh:IsHd h):EndF N h:=by
 cases hh
 ·unfold EndF; kernel_rfl
 ·unfold EndF; kernel_rfl
 ·unfold EndF; kernel_rfl
theorem endA (N:Nat) {h:Hd} (hh:IsHd h):EndA N h:=by
 cases hh
 ·unfold EndA; kernel_rfl
 ·unfold EndA; kernel_rfl
 ·unfold EndA; kernel_rfl
end P224
/- The reference's Multiple: what the numbers of a round come to. -/
namespace P224
open Go Go.RowKit Go.Proofs
set_option maxRecDepth 100000
set_option linter.unusedVariables false
theorem renOk_dec {nold nr2 nr:Nat} {ρ:Nat→Nat} (h:((List.range nold).all (fun r=>ρ r == r) && (List.range nr2).all (fun r=>decide (r<nold) || (decide (nold≤ρ r) && decide (ρ r<nr) && (List.range nr2).all fun q=>decide (q<nold) || decide (r=q) || decide (ρ r≠ρ q))) && decide (nold≤nr2))=true):RenOk nold nr2 nr ρ:=by
 simp only [Bool.and_eq_true,List.all_eq_true,List.mem_range,Bool.or_eq_true,decide_eq_true_eq,beq_iff_eq] at h
 obtain ⟨⟨h1,h2⟩,h3⟩:=h
 refine ⟨h1,fun r a b=>?_,fun r q a b c d e=>?_,h3⟩
 ·rcases h2 r b with g | ⟨g,_⟩
  ·omega
  ·exact g
 ·rcases h2 r c with g | ⟨_,g⟩
  ·omega
  ·rcases g q d with (g | g) | g
   ·omega
   ·exact absurd g e
   ·exact g
def JN (s:Nums) (X Y Z:Wd) (p:Pt pp):Prop:=JRep (fi pp (X.val s)) (fi pp (Y.val s)) (fi pp (Z.val s)) p∧Z.val s<pq
theorem fi_fmul {s:Nums} {k a b:Nat} (h:s k=a*b % pq):fi pp (s k)=fi pp a*fi pp b:=by rw [h,pq_is,fi_mod,fi_mul]
theorem fi_fadd {s:Nums} {k a b:Nat} (h:s k=(a+b) % pq):fi pp (s k)=fi pp a+fi pp b:=by rw [h,pq_is,fi_mod,fi_add]
def subq (a b:Nat):Nat:=(((a:Int) - (b:Int)) % (pq:Int)).toNat
theorem subq_lt (a b:Nat):subq a b<pq:=m14 a b
theorem fi_fsub {s:Nums} {k a b:Nat} (h:s k=subq a b):fi pp (s k)=fi pp a - fi pp b:=by rw [h,subq,fi_int]
theorem twE_ok {s:Nums} {X Y Z:Wd} {b:Nat} {l:List Ex} {p:Pt pp} (hp:OnC bb p) (hj:JN s X Y Z p) (hH:Holds s (b+18) (twE X Y Z b l)) :
  JN s (.v (b+10)) (.v (b+15)) (.v (b+17)) (padd p p)∧Holds s b l:=by
 obtain ⟨h17,h16,h15,h14,h13,h12,h11,h10,h9,h8,h7,h6,h5,h4,h3,h2,h1,h0,hl⟩:=hH
 have e0:s b=Z.val s*Z.val s % pq:=h0
 have e1:s (b+1)=Y.val s*Y.val s % pq:=h1
 have e2:s (b+2)=X.val s*s (b+1) % pq:=h2
 have e3:s (b+3)=subq (X.val s) (s b):=h3
 have e4:s (b+4)=(X.val s+s b) % pq:=h4
 have e5:s (b+5)=s (b+3)*s (b+4) % pq:=h5
 have e6:s (b+6)=3*s (b+5) % pq:=h6
 have e7:s (b+7)=4*s (b+2) % pq:=h7
 have e8:s (b+8)=s (b+6)*s (b+6) % pq:=h8
 have e9:s (b+9)=(s (b+7)+s (b+7)) % pq:=h9
 have e10:s (b+10)=subq (s (b+8)) (s (b+9)):=h10
 have e11:s (b+11)=subq (s (b+7)) (s (b+10)):=h11
 have e12:s (b+12)=s (b+6)*s (b+11) % pq:=h12
 have e13:s (b+13)=s (b+1)*s (b+1) % pq:=h13
 have e14:s (b+14)=8*s (b+13) % pq:=h14
 have e15:s (b+15)=subq (s (b+12)) (s (b+14)):=h15
 have e16:s (b+16)=Y.val s*Z.val s % pq:=h16
 have e17:s (b+17)=2*s (b+16) % pq:=h17
 refine ⟨⟨?_,by show s (b+17)<pq; rw [e17]; exact Nat.mod_lt _ pq_pos⟩,hl⟩
 refine jtwice fine hp hj.1 (fi_fmul e0) (fi_fmul e1) ((fi_fmul e2)) (al:=fi pp (s (b+6))) ?_ (f:=fi pp (s (b+7))) ?_ ?_ ?_ ?_
 ·rw [fi_fmul e6,fi_fmul e5,fi_fsub e3,fi_fadd e4]; rfl
 ·rw [fi_fmul e7]; rfl
 ·show fi pp (s (b+10))=_
  rw [fi_fsub e10,fi_fmul e8,fi_fadd e9]
 ·show fi pp (s (b+15))=fi pp (s (b+6))*(fi pp (s (b+7)) - fi pp (s (b+10))) - _
  rw [fi_fsub e15,fi_fmul e12,fi_fsub e11,fi_fmul e14,fi_fmul e13]; rfl
 ·show fi pp (s (b+17))=_
  rw [fi_fmul e17,fi_fmul e16]; rfl
theorem of_fi0 {a:Nat} (h:fi pp a=0) (ha:a<pq):a=0:=by
 have:=of_fi h (lt_pp ha)
 rwa [Fin.val_zero] at this
theorem hrE_ok {s:Nums} (hH:Holds s 15 hrE):s 7=(if s 4=0 then 1 else 0)∧fi pp (s 8)=fi pp (s 4)*fi pp (s 4)∧fi pp (s 10)=fi pp (s 0)*fi pp (s 8) - fi pp (s 2)∧s 10<pq∧fi pp (s 13)=fi pp (s 1)*(fi pp (s 4)*fi pp (s 8)) - fi pp (s 3)∧s 13<pq∧s 14=if s 10=0 then 1 else 0:=by
 obtain ⟨h14,h13,h12,h11,h10,h9,h8,h7,_⟩:=hH
 have e7:s 7=if s 4=0 then 1 else 0:=h7
 have e8:s 8=s 4*s 4 % pq:=h8
 have e9:s 9=s 0*s 8 % pq:=h9
 have e10:s 10=subq (s 9) (s 2):=h10
 have e11:s 11=s 4*s 8 % pq:=h11
 have e12:s 12=s 1*s 11 % pq:=h12
 have e13:s 13=subq (s 12) (s 3):=h13
 have e14:s 14=if s 10=0 then 1 else 0:=h14
 exact ⟨e7,fi_fmul e8,by rw [fi_fsub e10,fi_fmul e9],by rw [e10]; exact subq_lt _ _,by rw [fi_fsub e13,fi_fmul e12,fi_fmul e11],by rw [e13]; exact subq_lt _ _,e14⟩
theorem gE_ok {s:Nums} {g:Nat} {l:List Ex} {x y:Nat} {p:Pt pp} (h0:s 0=x) (h1:s 1=y) (hj:JN s (.v 2) (.v 3) (.v 4) p) (hz:s 4≠0) (hn:¬ (s 10=0∧s 13=0)) (hr:fi pp (s 8)=fi pp (s 4)*fi pp (s 4)) (h10:fi pp (s 10)=fi pp (s 0)*fi pp (s 8) - fi pp (s 2)) (l10:s 10<pq)
  (h13:fi pp (s 13)=fi pp (s 1)*(fi pp (s 4)*fi pp (s 8)) - fi pp (s 3)) (l13:s 13<pq) (hH:Holds s (g+12) (gE g l)):JN s (.v (g+6)) (.v (g+10)) (.v (g+11)) (padd p (ptN x y)):=by
 obtain ⟨q11,q10,q9,q8,q7,q6,q5,q4,q3,q2,q1,q0,hl⟩:=hH
 have e0:s g=s 10*s 10 % pq:=q0
 have e1:s (g+1)=s 10*s g % pq:=q1
 have e2:s (g+2)=s 2*s g % pq:=q2
 have e3:s (g+3)=s 13*s 13 % pq:=q3
 have e4:s (g+4)=subq (s (g+3)) (s (g+1)):=q4
 have e5:s (g+5)=(s (g+2)+s (g+2)) % pq:=q5
 have e6:s (g+6)=subq (s (g+4)) (s (g+5)):=q6
 have e7:s (g+7)=subq (s (g+2)) (s (g+6)):=q7
 have e8:s (g+8)=s 13*s (g+7) % pq:=q8
 have e9:s (g+9)=s 3*s (g+1) % pq:=q9
 have e10:s (g+10)=subq (s (g+8)) (s (g+9)):=q10
 have e11:s (g+11)=s 4*s 10 % pq:=q11
 obtain ⟨hj,lz⟩:=hj
 have lz:s 4<pq:=lz
 have z0:fi pp (s 4)≠0:=fun e=>hz (of_fi0 e lz)
 have hn':¬ (fi pp (s 10)=0∧fi pp (s 13)=0):=fun ⟨a,b⟩=>hn ⟨of_fi0 a l10,of_fi0 b l13⟩
 rw [h0] at h10
 rw [h1] at h13
 refine ⟨?_,by show s (g+11)<pq; rw [e11]; exact Nat.mod_lt _ pq_pos⟩
 refine jmore fine z0 hj hr h10 h13 hn' (fi_fmul e0) (fi_fmul e1) (fi_fmul e2) ?_ ?_ (fi_fmul e11)
 ·show fi pp (s (g+6))=_
  rw [fi_fsub e6,fi_fsub e4,fi_fmul e3,fi_fadd e5]
 ·show fi pp (s (g+10))=fi pp (s 13)*(fi pp (s (g+2)) - fi pp (s (g+6))) - _
  rw [fi_fsub e10,fi_fmul e8,fi_fsub e7,fi_fmul e9]; rfl
theorem bitE_ok {s:Nums} {j:Nat} (hH:Holds s 10 (bitE (j+1))):s 9=s 5 / 2 ^ j % 2:=by
 obtain ⟨h9,h8,h7,_⟩:=hH
 have e7:s 7=s 5 / 2 ^ j:=h7
 have e8:s 8=s 7 &&& 1:=h8
 have e9:s 9=if s 8=1 then 1 else 0:=h9
 have e8':s 8=s 7 % 2:=by rw [e8]; exact Nat.and_two_pow_sub_one_eq_mod _ 1
 rw [e9,e8',e7]
 have:=Nat.mod_two_eq_zero_or_one (s 5 / 2 ^ j)
 rcases this with h | h <;> rw [h] <;> rfl
theorem jaff {x y z:Fin pp} {a c:Fin pp} (hj:JRep x y z (.pt a c)):x*(finv z*finv z)=a∧y*(finv z*finv z*finv z)=c:=by
 obtain ⟨z0,ex,ey⟩:=hj
 have hi:=mul_finv fine.prime z0
 generalize finv z=i at hi ⊢
 constructor
 ·rw [ex]
  have:a*(z*z)*(i*i)=a*((z*i)*(z*i)):=by grind
  rw [this,hi,Fin.mul_one,Fin.mul_one]
 ·rw [ey]
  have:c*(z*(z*z))*(i*i*i)=c*((z*i)*((z*i)*(z*i))):=by grind
  rw [this,hi,Fin.mul_one,Fin.mul_one,Fin.mul_one]
end P224
/- The reference's Multiple: its loops. -/
namespace P224
open Go Go.RowKit Go.Proofs
set_option maxRecDepth 100000
set_option linter.unusedVariables false
theorem headO {h:Hd} (hh:IsHd h) (N k:Nat):HeadOk (tmO N k) (memH h) 7 11:=by
 cases hh <;> exact ⟨rfl,rfl,rfl,rfl⟩
theorem headI {h:Hd} (hh:IsHd h) (N k j:Nat):HeadOk (tmI N k j) (memH h) 7 11:=by
 cases hh <;> exact ⟨rfl,rfl,rfl,rfl⟩
theorem headJ {h:Hd} (hh:IsHd h) (N k j:Nat):HeadOk (tmJ N k j) (memH h) 7 11:=by
 cases hh <;> exact ⟨rfl,rfl,rfl,rfl⟩
theorem mem_id {h:Hd} (hh:IsHd h) {ν:Nat→Nat} (hν:∀ i,i<5→ν i=i):(memH h).map (fun e=>lookup e.1 (memH h))=(memH h).map fun e=>some (e.2.map (A0.rn id ν)):=by
 have e0:=hν 0 (by decide)
 have e1:=hν 1 (by decide)
 have e2:=hν 2 (by decide)
 have e3:=hν 3 (by decide)
 have e4:=hν 4 (by decide)
 have l:∀ i,i<5→(l32s i).map (A0.rn id ν)=l32s i:=fun i hi=>by
  rw [l32s,List.map_map]
  apply List.map_congr_left
  intro k hk
  show A0.l32 (ν i) k=_
  rw [hν i hi]
 have f:∀ k:List A0,k.map (A0.rn id ν)=k→(some k:Option (List A0))=some (k.map (A0.rn id ν)):=fun k hk=>by rw [hk]
 cases hh
 ·show [some foldCells,some (l32s 0),some (l32s 1),some curveL,some [.lit (.bool false),.slc 1 0 7 7,.slc 2 0 7 7],some _,some _,some (l32s 2),some (l32s 3),some (l32s 4)]=[some foldCells,some ((l32s 0).map (A0.rn id ν)),some ((l32s 1).map (A0.rn id ν)),some curveL,some [.lit (.bool false),.slc 1 0 7 7,.slc 2 0 7 7],some _,some _,some ((l32s 2).map (A0.rn id ν)),some ((l32s 3).map (A0.rn id ν)),some ((l32s 4).map (A0.rn id ν))]
  rw [l 0 (by decide),l 1 (by decide),l 2 (by decide),l 3 (by decide),l 4 (by decide)]
  rfl
 ·show [some foldCells,some (l32s 0),some (l32s 1),some curveL,some [.lit (.bool false),.slc 1 0 7 7,.slc 2 0 7 7],some _,some _,some (litR 1)]=[some foldCells,some ((l32s 0).map (A0.rn id ν)),some ((l32s 1).map (A0.rn id ν)),some curveL,some [.lit (.bool false),.slc 1 0 7 7,.slc 2 0 7 7],some _,some _,some (litR 1)]
  rw [l 0 (by decide),l 1 (by decide)]
  rfl
 ·show [some foldCells,some (l32s 0),some (l32s 1),some curveL,some [.lit (.bool false),.slc 1 0 7 7,.slc 2 0 7 7],some _,some _,some (litR 1),some (litR 1),some (litR 0)]=[some foldCells,some ((l32s 0).map (A0.rn id ν)),some ((l32s 1).map (A0.rn id ν)),some curveL,some [.lit (.bool false),.slc 1 0 7 7,.slc 2 0 7 7],some _,some _,some (litR 1),some (litR 1),some (litR 0)]
  rw [l 0 (by decide),l 1 (by decide)]
  rfl
structure At24 (w0:World) (β0:Places) (x y:Nat) (h:Hd) (tl:List (Nat × AV)) (s:Nums) (K:Nat) (a:Act) (w:World):Prop where
 rel:∃ β,Rel (fixH 74 4 []) s β w0 (headSt tl (memH h) 7 11) a w∧∀ r,r<4→β r=β0 r
 hd:IsHd h
 sx:s 0=x
 sy:s 1=y
 jn:JN s h.X h.Y h.Z (nsmul K (ptN x y))
theorem jn_congr {s s':Nums} {h:Hd} (hh:IsHd h) (e:∀ i,i<5→s' i=s i) {p:Pt pp} (hj:JN s h.X h.Y h.Z p):JN s' h.X h.Y h.Z p:=by
 have e0:=e 0 (by decide)
 have e1:=e 1 (by decide)
 have e2:=e 2 (by decide)
 have e3:=e 3 (by decide)
 have e4:=e 4 (by decide)
 cases hh
 ·obtain ⟨h1,h2⟩:=hj
  refine ⟨?_,?_⟩
  ·show JRep (fi pp (s' 2)) (fi pp (s' 3)) (fi pp (s' 4)) p
   rw [e2,e3,e4]; exact h1
  ·show s' 4<pq
   rw [e4]; exact h2
 ·obtain ⟨h1,h2⟩:=hj
  refine ⟨?_,h2⟩
  show JRep (fi pp (s' 0)) (fi pp (s' 1)) (fi pp 1) p
  rw [e0,e1]; exact h1
 ·exact hj
section
variable {w0:World} {β0:Places} {x y:Nat}
theorem plain_hop {h:Hd} {tl tl':List (Nat × AV)} {s:Nums} {K:Nat} {a:Act} {w:World} (hA:At24 w0 β0 x y h tl s K a w) (h1:HeadOk tl (memH h) 7 11) (h2:HeadOk tl' (memH h) 7 11) {l:List Code} {o:Out} {nx:Nat} {ex:List Ex} {ν:Nat→Nat} (hp:Plain l tl tl' o nx ex ν) (hν:∀ i,i<5→ν i=i)
  (hsc:inScope nx ex=true) (hle:ex.length≤nx) (hn0:nx - ex.length=7) {Q:Exit→Act→World→Prop}
  (hn:∀ (s1:Nums) (a':Act) (w':World),(∀ i,i<7→s1 i=s i)→Holds s1 nx ex→At24 w0 β0 x y h tl' (fun i=>s1 (ν i)) K a' w'→Q o.toExit a' w'):Reach Try.prog l Q a w:=by
 obtain ⟨β,hr,hβ⟩:=hA.rel
 refine hopP (tabM_ok xb1_ok) hr h1 (by decide) ν (hp (memH h)) hsc hle hn0 (fun s1 _ _ i b hb=>by cases hb) h2 (mem_id hA.hd hν) fun s1 β' a' w' e hH hb hr'=>?_
 refine hn s1 a' w' e hH ⟨⟨β',hr',fun r hr=>(hb r hr).trans (hβ r hr)⟩,hA.hd,?_,?_,?_⟩
 ·show s1 (ν 0)=x
  rw [hν 0 (by decide),e 0 (by decide)]; exact hA.sx
 ·show s1 (ν 1)=y
  rw [hν 1 (by decide),e 1 (by decide)]; exact hA.sy
 ·exact jn_congr hA.hd (fun i hi=>by show s1 (ν i)=s i; rw [hν i hi,e i (by omega)]) hA.jn
theorem piece_hop {h h':Hd} {tl tl':List (Nat × AV)} {s:Nums} {K K':Nat} {a:Act} {w:World} (hA:At24 w0 β0 x y h tl s K a w) (h1:HeadOk tl (memH h) 7 11) (h2:HeadOk tl' (memH h') 7 11) (hh':IsHd h') {c:Code} {d:List (Nat × Bool)} {nx:Nat} {ex:List Ex} {m p q r i j k:Nat}
  (hp:Piece c tl tl' h d nx ex h' m p q r i j k) (hmr:memR h' (ρ3 p q r) (ν3 i j k)=(memH h').map fun e=>some (e.2.map (A0.rn (ρ3 p q r) (ν3 i j k)))) (hρ:RenOk 4 11 m (ρ3 p q r))
  (hsc:inScope nx ex=true) (hle:ex.length≤nx) (hn0:nx - ex.length=7)
  (hdec:∀ s1:Nums,(∀ i,i<7→s1 i=s i)→Holds s1 nx ex→Dec (fixH 74 4 d) s1)
  (hj:∀ s1:Nums,(∀ i,i<7→s1 i=s i)→Holds s1 nx ex→JN (fun t=>s1 (ν3 i j k t)) h'.X h'.Y h'.Z (nsmul K' (ptN x y))) {Q:Exit→Act→World→Prop}
  (hn:∀ (s1:Nums) (a':Act) (w':World),(∀ i,i<7→s1 i=s i)→At24 w0 β0 x y h' tl' (fun t=>s1 (ν3 i j k t)) K' a' w'→Q .normal a' w'):c.wp Try.prog Q a w:=by
 obtain ⟨β,hr,hβ⟩:=hA.rel
 have hp':peek (tabM xb1) (fixH 74 4 d) 3000 c (headSt tl (memH h) 7 11) m (tl'.map fun e=>e.1) ((memH h').map fun e=>ρ3 p q r e.1)=some ⟨.normal,nx,ex,tl'.map fun e=>some (e.2.rn (ρ3 p q r) (ν3 i j k)),(memH h').map fun e=>some (e.2.map (A0.rn (ρ3 p q r) (ν3 i j k)))⟩:=by
  rw [← hmr]; exact hp
 refine hop (tabM_ok xb1_ok) hr h1 (by decide) (ρ3 p q r) (ν3 i j k) hp' hsc hle hn0 hdec h2 hρ fun s1 β' a' w' e hH hb hr'=>?_
 refine hn s1 a' w' e ⟨⟨β',hr',fun r hr=>(hb r hr).trans (hβ r hr)⟩,hh',?_,?_,hj s1 e hH⟩
 ·show s1 (ν3 i j k 0)=x
  rw [show ν3 i j k 0=0 from rfl,e 0 (by decide)]; exact hA.sx
 ·show s1 (ν3 i j k 1)=y
  rw [show ν3 i j k 1=1 from rfl,e 1 (by decide)]; exact hA.sy
theorem dec_of {s1:Nums} {d:List (Nat × Bool)} (h:∀ i b,(i,b) ∈ d→s1 i=b.toNat):Dec (fixH 74 4 d) s1:=fun i b hb=>h i b (findT_mem (show findT i d=some b from hb))
theorem nsmul_up (hon:onN x y=1) (K:Nat):nsmul (K+1) (ptN x y)=padd (nsmul K (ptN x y)) (ptN x y):=by
 have:=nsmul_add fine (onN_on hon) K 1
 rwa [nsmul_one] at this
theorem hop_twice (hon:onN x y=1) {N k j:Nat} {h:Hd} {s:Nums} {K:Nat} {a:Act} {w:World} (hX:At24 w0 β0 x y h (tmI N k j) s K a w) {Q:Exit→Act→World→Prop}
  (hn:∀ (s1:Nums) (a':Act) (w':World),s1 5=s 5→At24 w0 β0 x y hA (tmI N k j) s1 (2*K) a' w'→Q .normal a' w'):iT.wp Try.prog Q a w:=by
 have key:∀ s1:Nums,(∀ i,i<7→s1 i=s i)→Holds s1 25 (twE h.X h.Y h.Z 7 [])→JN (fun t=>s1 (ν3 17 22 24 t)) hA.X hA.Y hA.Z (nsmul (2*K) (ptN x y)):=fun s1 e hH=>by
  obtain ⟨h1,_⟩:=twE_ok (b:=7) (nsmul_on fine (onN_on hon) K) (jn_congr hX.hd (fun i hi=>e i (by omega)) hX.jn) hH
  rw [← nsmul_two fine (onN_on hon)] at h1
  exact h1
 have fin:∀ (s1:Nums) (a':Act) (w':World),(∀ i,i<7→s1 i=s i)→At24 w0 β0 x y hA (tmI N k j) (fun t=>s1 (ν3 17 22 24 t)) (2*K) a' w'→Q .normal a' w':=fun s1 a' w' e h1=>hn (fun t=>s1 (ν3 17 22 24 t)) a' w' (e 5 (by decide)) h1
 have hd:=hX.hd
 cases hd with
 | a=>exact piece_hop hX (headI .a N k j) (headI .a N k j) .a (pT_A N k j) rfl (renOk_dec (by decide)) (by decide +kernel) (by decide) rfl (fun s1 _ _=>dec_of fun i b hb=>by cases hb) key fin
 | b=>exact piece_hop hX (headI .b N k j) (headI .a N k j) .a (pT_B N k j) rfl (renOk_dec (by decide)) (by decide +kernel) (by decide) rfl (fun s1 _ _=>dec_of fun i b hb=>by cases hb) key fin
 | c=>exact piece_hop hX (headI .c N k j) (headI .a N k j) .a (pT_C N k j) rfl (renOk_dec (by decide)) (by decide +kernel) (by decide) rfl (fun s1 _ _=>dec_of fun i b hb=>by cases hb) key fin
def hvN (s:Nums):Nat:=subq (s 0*(s 4*s 4 % pq) % pq) (s 2)
def rvN (s:Nums):Nat:=subq (s 1*(s 4*(s 4*s 4 % pq) % pq) % pq) (s 3)
theorem hv_congr {s s1:Nums} (e:∀ i,i<7→s1 i=s i):hvN s1=hvN s∧rvN s1=rvN s:=by
 unfold hvN rvN
 rw [e 0 (by decide),e 1 (by decide),e 2 (by decide),e 3 (by decide),e 4 (by decide)]
 exact ⟨rfl,rfl⟩
theorem hrE_val {s:Nums} (hH:Holds s 15 hrE):s 10=hvN s∧s 13=rvN s:=by
 obtain ⟨_,h13,h12,h11,h10,h9,h8,_,_⟩:=hH
 have e8:s 8=s 4*s 4 % pq:=h8
 have e9:s 9=s 0*s 8 % pq:=h9
 have e10:s 10=subq (s 9) (s 2):=h10
 have e11:s 11=s 4*s 8 % pq:=h11
 have e12:s 12=s 1*s 11 % pq:=h12
 have e13:s 13=subq (s 12) (s 3):=h13
 exact ⟨by rw [e10,e9,e8]; rfl,by rw [e13,e12,e11,e8]; rfl⟩
theorem gE_rest {s:Nums} {g:Nat} {l:List Ex} (hH:Holds s (g+12) (gE g l)):Holds s g l:=by
 obtain ⟨_,_,_,_,_,_,_,_,_,_,_,_,hl⟩:=hH
 exact hl
theorem hop_more (hon:onN x y=1) {N k j:Nat} {s:Nums} {K:Nat} {a:Act} {w:World} (hX:At24 w0 β0 x y hA (tmJ N k j) s K a w) (h6:s 6=0∨s 6=1) {Q:Exit→Act→World→Prop}
  (hn:∀ (h':Hd) (s1:Nums) (a':Act) (w':World),s1 5=s 5→At24 w0 β0 x y h' (tmI N k j) s1 (K+s 6) a' w'→Q .normal a' w'):iM.wp Try.prog Q a w:=by
 have hc:=onN_on hon
 have jn:∀ s1:Nums,(∀ i,i<7→s1 i=s i)→JN s1 (.v 2) (.v 3) (.v 4) (nsmul K (ptN x y)):=fun s1 e=>jn_congr .a (fun i hi=>e i (by omega)) hX.jn
 rcases h6 with h6 | h6
 ·rw [h6] at hn
  exact piece_hop hX (headJ .a N k j) (headI .a N k j) .a (pM_0 N k j) rfl (renOk_dec (by decide)) (by decide +kernel) (by decide) rfl (fun s1 e _=>dec_of fun i b hb=>by
   simp only [List.mem_cons,List.not_mem_nil,or_false,Prod.mk.injEq] at hb
   obtain ⟨rfl,rfl⟩:=hb
   rw [e 6 (by decide),h6]; rfl) (fun s1 e _=>jn s1 e) fun s1 a' w' e h1=>hn hA (fun t=>s1 (ν3 2 3 4 t)) a' w' (e 5 (by decide)) h1
 rw [h6] at hn
 by_cases z:s 4=0
 ·refine piece_hop hX (headJ .a N k j) (headI .b N k j) .b (pM_z N k j) rfl (renOk_dec (by decide)) (by decide +kernel) (by decide) rfl (fun s1 e hH=>dec_of fun i b hb=>?_) (fun s1 e _=>?_) fun s1 a' w' e h1=>hn hB (fun t=>s1 (ν3 2 3 4 t)) a' w' (e 5 (by decide)) h1
  ·have e7:s1 7=if s1 4=0 then 1 else 0:=hH.1
   rw [e 4 (by decide),if_pos z] at e7
   simp only [List.mem_cons,List.not_mem_nil,or_false,Prod.mk.injEq] at hb
   rcases hb with ⟨rfl,rfl⟩|⟨rfl,rfl⟩
   ·rw [e 6 (by decide),h6]; rfl
   ·exact e7
  ·have hfar:nsmul K (ptN x y)=.far:=by
    obtain ⟨hj,_⟩:=hX.jn
    cases hp:nsmul K (ptN x y) with
    | far=>rfl
    | pt u v =>
     rw [hp] at hj
     exact absurd (show fi pp (s 4)=0 by rw [z]; rfl) hj.1
   rw [nsmul_up hon,hfar,far_padd]
   refine ⟨?_,show 1<pq by decide +kernel⟩
   show JRep (fi pp (s1 0)) (fi pp (s1 1)) (fi pp 1) (.pt (fi pp x) (fi pp y))
   rw [e 0 (by decide),e 1 (by decide),hX.sx,hX.sy]
   exact jone _ _ fi_one_ne
 have z7:∀ s1:Nums,(∀ i,i<7→s1 i=s i)→Holds s1 15 hrE→s1 7=0:=fun s1 e hH=>by
  have:=(hrE_ok hH).1
  rw [e 4 (by decide),if_neg z] at this
  exact this
 have dec3:∀ (s1:Nums),(∀ i,i<7→s1 i=s i)→s1 6=1:=fun s1 e=>(e 6 (by decide)).trans h6
 by_cases hh:hvN s=0
 ·by_cases hr:rvN s=0
  ·have v:∀ s1:Nums,(∀ i,i<7→s1 i=s i)→Holds s1 16 (.feq (.v 13) (.c 0) :: hrE)→s1 14=1∧s1 15=1∧nsmul K (ptN x y)=ptN x y:=fun s1 e hH=>by
    obtain ⟨h15,hH⟩:=hH
    obtain ⟨v1,v2⟩:=hrE_val hH
    obtain ⟨g1,g2⟩:=hv_congr e
    obtain ⟨f7,f8,f10,_,f13,_,f14⟩:=hrE_ok hH
    have e15:s1 15=if s1 13=0 then 1 else 0:=h15
    rw [v1,g1,if_pos hh] at f14
    rw [v2,g2,if_pos hr] at e15
    refine ⟨f14,e15,?_⟩
    obtain ⟨hj,lz⟩:=jn s1 e
    have lz:s1 4<pq:=lz
    have z0:fi pp (s1 4)≠0:=fun e'=>z (by rw [← e 4 (by decide)]; exact of_fi0 e' lz)
    rw [v1,g1,hh] at f10
    rw [v2,g2,hr] at f13
    rw [e 0 (by decide),hX.sx,f8] at f10
    rw [e 1 (by decide),hX.sy,f8] at f13
    exact jsame fine z0 hj f10.symm f13.symm
   refine piece_hop hX (headJ .a N k j) (headI .a N k j) .a (pM_s N k j) rfl (renOk_dec (by decide)) (by decide +kernel) (by decide) rfl (fun s1 e hH=>dec_of fun i b hb=>?_) (fun s1 e hH=>?_) fun s1 a' w' e h1=>hn hA (fun t=>s1 (ν3 26 31 33 t)) a' w' (e 5 (by decide)) h1
   ·obtain ⟨_,hH'⟩:=twE_ok (b:=16) (nsmul_on fine hc K) (jn s1 e) hH
    obtain ⟨g1,g2,_⟩:=v s1 e hH'
    have g0:=z7 s1 e hH'.2
    have g6:=dec3 s1 e
    simp only [List.mem_cons,List.not_mem_nil,or_false,Prod.mk.injEq] at hb
    rcases hb with ⟨rfl,rfl⟩|⟨rfl,rfl⟩|⟨rfl,rfl⟩|⟨rfl,rfl⟩ <;> assumption
   ·obtain ⟨hj,hH'⟩:=twE_ok (b:=16) (nsmul_on fine hc K) (jn s1 e) hH
    obtain ⟨_,_,g3⟩:=v s1 e hH'
    rw [nsmul_up hon]
    rw [g3] at hj ⊢
    exact hj
  ·have v:∀ s1:Nums,(∀ i,i<7→s1 i=s i)→Holds s1 16 (.feq (.v 13) (.c 0) :: hrE)→s1 14=1∧s1 15=0:=fun s1 e hH=>by
    obtain ⟨h15,hH⟩:=hH
    obtain ⟨v1,v2⟩:=hrE_val hH
    obtain ⟨g1,g2⟩:=hv_congr e
    obtain ⟨f7,f8,f10,_,f13,_,f14⟩:=hrE_ok hH
    have e15:s1 15=if s1 13=0 then 1 else 0:=h15
    rw [v1,g1,if_pos hh] at f14
    rw [v2,g2,if_neg hr] at e15
    exact ⟨f14,e15⟩
   refine piece_hop hX (headJ .a N k j) (headI .a N k j) .a (pM_h N k j) rfl (renOk_dec (by decide)) (by decide +kernel) (by decide) rfl (fun s1 e hH=>dec_of fun i b hb=>?_) (fun s1 e hH=>?_) fun s1 a' w' e h1=>hn hA (fun t=>s1 (ν3 22 26 27 t)) a' w' (e 5 (by decide)) h1
   ·have hH':=gE_rest (g:=16) hH
    obtain ⟨g1,g2⟩:=v s1 e hH'
    have g0:=z7 s1 e hH'.2
    have g6:=dec3 s1 e
    simp only [List.mem_cons,List.not_mem_nil,or_false,Prod.mk.injEq] at hb
    rcases hb with ⟨rfl,rfl⟩|⟨rfl,rfl⟩|⟨rfl,rfl⟩|⟨rfl,rfl⟩ <;> assumption
   ·have hH':=(gE_rest (g:=16) hH).2
    obtain ⟨f7,f8,f10,l10,f13,l13,f14⟩:=hrE_ok hH'
    obtain ⟨v1,v2⟩:=hrE_val hH'
    rw [nsmul_up hon]
    exact gE_ok (g:=16) ((e 0 (by decide)).trans hX.sx) ((e 1 (by decide)).trans hX.sy) (jn s1 e) (by rw [e 4 (by decide)]; exact z) (fun ⟨_,b⟩=>hr (by rw [← (hv_congr e).2,← v2]; exact b)) f8 f10 l10 f13 l13 hH
 ·have v:∀ s1:Nums,(∀ i,i<7→s1 i=s i)→Holds s1 15 hrE→s1 14=0:=fun s1 e hH=>by
   obtain ⟨v1,v2⟩:=hrE_val hH
   obtain ⟨g1,g2⟩:=hv_congr e
   obtain ⟨f7,f8,f10,_,f13,_,f14⟩:=hrE_ok hH
   rw [v1,g1,if_neg hh] at f14
   exact f14
  refine piece_hop hX (headJ .a N k j) (headI .a N k j) .a (pM_g N k j) rfl (renOk_dec (by decide)) (by decide +kernel) (by decide) rfl (fun s1 e hH=>dec_of fun i b hb=>?_) (fun s1 e hH=>?_) fun s1 a' w' e h1=>hn hA (fun t=>s1 (ν3 21 25 26 t)) a' w' (e 5 (by decide)) h1
  ·have hH':=gE_rest (g:=15) hH
   have g1:=v s1 e hH'
   have g0:=z7 s1 e hH'
   have g6:=dec3 s1 e
   simp only [List.mem_cons,List.not_mem_nil,or_false,Prod.mk.injEq] at hb
   rcases hb with ⟨rfl,rfl⟩|⟨rfl,rfl⟩|⟨rfl,rfl⟩ <;> assumption
  ·have hH':=gE_rest (g:=15) hH
   obtain ⟨f7,f8,f10,l10,f13,l13,f14⟩:=hrE_ok hH'
   obtain ⟨v1,v2⟩:=hrE_val hH'
   rw [nsmul_up hon]
   exact gE_ok (g:=15) ((e 0 (by decide)).trans hX.sx) ((e 1 (by decide)).trans hX.sy) (jn s1 e) (by rw [e 4 (by decide)]; exact z) (fun ⟨b,_⟩=>hh (by rw [← (hv_congr e).1,← v1]; exact b)) f8 f10 l10 f13 l13 hH
end
end P224
/- The reference's Multiple: the inner and the outer loop. -/
namespace P224
open Go Go.RowKit Go.Proofs
set_option maxRecDepth 100000
set_option linter.unusedVariables false
theorem numsF_get {k:IntKind}:∀ {n i j:Nat} {a:A0},(numsFrom k i n)[j]?=some a→a=.num k (i+j)∧j<n
 | 0,i,j,a,h=>by simp [numsFrom] at h
 | n+1,i,0,a,h=>by
  cases (show some (A0.num k i)=some a from h)
  exact ⟨rfl,Nat.succ_pos _⟩
 | n+1,i,j+1,a,h=>by
  have h':(numsFrom k (i+1) n)[j]?=some a:=h
  obtain ⟨e,hj⟩:=numsF_get h'
  exact ⟨by rw [e,show i+1+j=i+(j+1) by omega],by omega⟩
theorem shapeO:kO=.seq o1 (.seq o3 (.seq (.block 1 (.seq i6 (.seq i7 (.block 2 (.loop kI))))) o13)):=by kernel_rfl
theorem shape24':c24=.seq k0 (.seq k1 (.seq k3 (.seq (.seq k4 (.block 0 (.loop kO))) kP))):=by kernel_rfl
theorem bits_step (K b j:Nat):(2*K+b / 2 ^ j % 2)*2 ^ j+b % 2 ^ j=K*2 ^ (j+1)+b % 2 ^ (j+1):=by
 have h:b % 2 ^ (j+1)=b % 2 ^ j+2 ^ j*(b / 2 ^ j % 2):=Nat.mod_pow_succ
 rw [h,Nat.pow_succ,Nat.add_mul,Nat.mul_comm (b / 2 ^ j % 2),Nat.mul_comm (2 ^ j) 2,← Nat.mul_assoc,Nat.mul_comm K 2]
 omega
section
variable {w0:World} {β0:Places} {x y:Nat}
theorem inner (hon:onN x y=1) (N k b:Nat):∀ (j:Nat),j≤8→∀ {h:Hd} {s:Nums} {K:Nat} {a:Act} {w:World},At24 w0 β0 x y h (tmI N k j) s K a w→s 5=b→∀ {Q:Exit→Act→World→Prop},
  (∀ (h':Hd) (s':Nums) (a':Act) (w':World),At24 w0 β0 x y h' (tmO N k) s' (K*2 ^ j+b % 2 ^ j) a' w'→Q (.exit 2) a' w')→Code.rounds Try.prog kI Q (j+1) a w
 | 0,_,h,s,K,a,w,hX,hb,Q,hn=>by
  show kI.wp Try.prog (Exit.then (Code.rounds Try.prog kI Q 0) Q) a w
  have:=plain_hop hX (headI hX.hd N k 0) (headO hX.hd N k) (pA_out N k) (fun _ _=>rfl) rfl (by decide) rfl (Q:=Exit.then (Code.rounds Try.prog kI Q 0) Q) fun s1 a' w' e hH h1=>by
   show Q (.exit 2) a' w'
   refine hn h (fun i=>s1 (id i)) a' w' ?_
   rw [Nat.pow_zero,Nat.mul_one,Nat.mod_one,Nat.add_zero]
   exact h1
  exact this
 | j+1,hj,h,s,K,a,w,hX,hb,Q,hn=>by
  show kI.wp Try.prog (Exit.then (Code.rounds Try.prog kI Q (j+1)) Q) a w
  rw [shapeI]
  refine wp_seq ?_
  refine plain_hop (l:=[iA]) hX (headI hX.hd N k (j+1)) (headI hX.hd N k (j+1)) (pA N k (j:=j) (by omega)) (fun _ _=>rfl) rfl (by decide) rfl fun s1 a1 w1 e1 _ h1=>?_
  show (Code.seq _ _).wp _ _ a1 w1
  refine wp_seq (wp_block (wp_seq ?_))
  refine hop_twice hon h1 fun s2 a2 w2 e2 h2=>?_
  show (Code.seq _ _).wp _ _ a2 w2
  refine wp_seq ?_
  refine plain_hop (l:=[iB]) h2 (headI .a N k (j+1)) (headJ .a N k (j+1)) (pB N k (j:=j) (by omega)) (fun i hi=>by show (if i=6 then 9 else i)=i; rw [if_neg (by omega)]) rfl (show 3≤10 by decide) rfl fun s3 a3 w3 e3 hH3 h3=>?_
  have hbit:s3 (νb 6)=b / 2 ^ j % 2:=by
   have:=bitE_ok hH3
   have e5:s3 5=b:=(e3 5 (by decide)).trans (e2.trans ((e1 5 (by decide)).trans hb))
   rw [e5] at this
   exact this
  have h5:s3 (νb 5)=b:=(e3 5 (by decide)).trans (e2.trans ((e1 5 (by decide)).trans hb))
  show iM.wp _ _ a3 w3
  refine hop_more hon h3 (by show s3 (νb 6)=0∨s3 (νb 6)=1; rw [hbit]; exact Nat.mod_two_eq_zero_or_one _) fun h4 s4 a4 w4 e4 hh4=>?_
  have hh4:At24 w0 β0 x y h4 (tmI N k (j+1)) s4 (2*K+s3 (νb 6)) a4 w4:=hh4
  rw [hbit] at hh4
  show iE.wp _ _ a4 w4
  refine plain_hop (l:=[iE]) hh4 (headI hh4.hd N k (j+1)) (headI hh4.hd N k j) (pE N k (j:=j) (by omega)) (fun _ _=>rfl) rfl (by decide) rfl fun s5 a5 w5 e6 _ hh5=>?_
  show Code.rounds Try.prog kI Q (j+1) a5 w5
  refine inner hon N k b j (by omega) hh5 ((e6 5 (by decide)).trans (e4.trans h5)) fun h' s' a' w' hh=>hn h' s' a' w' ?_
  rw [bits_step] at hh
  exact hh
structure Row24 (w0:World) (β0:Places) (N:Nat) (ks:List Nat):Prop where
 len:ks.length=N
 cell:∀ i,i<N→w0.cell? (at_ β0 3 i)=some (.int .u8 ((ks.getD i 0:Nat):Int))∧ks.getD i 0<256
theorem headO3 {h:Hd} (hh:IsHd h) {N:Nat} (hN:N=28∨N=1) (k:Nat):HeadOk (tmO N k) ((3,numsFrom .u8 7 N) :: memH h) (7+N) 11:=by
 rcases hN with rfl | rfl <;> cases hh <;> exact ⟨by rfl,by rfl,by rfl,by rfl⟩
theorem mem_row {h:Hd} (hh:IsHd h) (l:List A0) {ν:Nat→Nat} (hν:∀ i,i<5→ν i=i):(memH h).map (fun e=>lookup e.1 ((3,l) :: memH h))=(memH h).map fun e=>some (e.2.map (A0.rn id ν)):=by
 rw [← mem_id hh hν]
 cases hh <;> rfl
theorem ofB_drop {ks:List Nat} {k m:Nat} (h:k+(m+1)=ks.length):ofBytes (ks.drop k)=ks.getD k 0*256 ^ m+ofBytes (ks.drop (k+1)):=by
 have hk:k<ks.length:=by omega
 rw [List.drop_eq_getElem_cons hk,ofBytes,List.length_drop,show ks.length - (k+1)=m by omega,List.getD_eq_getElem?_getD,List.getElem?_eq_getElem hk]
 rfl
theorem outer (hon:onN x y=1) {N:Nat} (hN:N=28∨N=1) (pO:∀ k,k<N→PlainO N k) (pN:∀ k,k<N→PlainN N k) (pX:Plain [kO] (tmO N N) (tmO N N) (.exit 0) 7 [] id) {ks:List Nat} (hks:Row24 w0 β0 N ks) :
  ∀ (m k:Nat),k+m=N→∀ {h:Hd} {s:Nums} {K:Nat} {a:Act} {w:World},At24 w0 β0 x y h (tmO N k) s K a w→∀ {Q:Exit→Act→World→Prop},
  (∀ (h':Hd) (s':Nums) (a':Act) (w':World),At24 w0 β0 x y h' (tmO N N) s' (K*256 ^ m+ofBytes (ks.drop k)) a' w'→Q (.exit 0) a' w')→Code.rounds Try.prog kO Q (m+1) a w
 | 0,k,hk,h,s,K,a,w,hX,Q,hn=>by
  have hk:k=N:=by omega
  subst hk
  show kO.wp Try.prog (Exit.then (Code.rounds Try.prog kO Q 0) Q) a w
  have:=plain_hop (l:=[kO]) hX (headO hX.hd k k) (headO hX.hd k k) pX (fun _ _=>rfl) rfl (by decide) rfl (Q:=Exit.then (Code.rounds Try.prog kO Q 0) Q) fun s1 a' w' e hH h1=>by
   show Q (.exit 0) a' w'
   refine hn h (fun i=>s1 (id i)) a' w' ?_
   rw [Nat.pow_zero,Nat.mul_one,List.drop_eq_nil_of_le (by rw [hks.len]; exact Nat.le_refl _)]
   exact h1
  exact this
 | m+1,k,hk,h,s,K,a,w,hX,Q,hn=>by
  show kO.wp Try.prog (Exit.then (Code.rounds Try.prog kO Q (m+1)) Q) a w
  obtain ⟨β,hr,hβ⟩:=hX.rel
  let s2:Nums:=fun i=>if i<7 then s i else ks.getD (i - 7) 0
  have lo:∀ i,i<7→s2 i=s i:=fun i hi=>if_pos hi
  have hi':∀ i,i<N→s2 (7+i)=ks.getD i 0:=fun i hi=>by
   show (if 7+i<7 then s (7+i) else ks.getD (7+i - 7) 0)=_
   rw [if_neg (by omega),show 7+i - 7=i by omega]
  have h3:=headO hX.hd N k
  have hr2:Rel (fixH 74 4 []) s2 β w0 (headSt (tmO N k) (memH h) 7 11) a w:=by
   have:=hr.renew (F2:=fixH 74 4 []) (s2:=s2) rfl rfl rfl rfl (fun _=>rfl) rfl (ρ:=id) (ν:=id) (tl:=tmO N k) (ml:=memH h) (nx2:=7) (nr2:=11) lo
    (by show (tmO N k).map (fun e=>(tmL (tmO N k)).get e.1)=_; rw [h3.ts]; simp only [rn_idV]) h3.tb (by show (memH h).map (fun e=>lookup e.1 (memH h))=_; rw [h3.ms]; simp only [rn_idL]) h3.mb
    ⟨fun _ _=>rfl,fun r h1 h2=>⟨h1,h2⟩,fun r q _ _ _ _ h=>h,by decide⟩ (fun i b hb=>by cases hb)
   exact this
  have hr3:=hr2.addRow (fun _=>rfl) (r:=3) (l:=numsFrom .u8 7 N) (nx2:=7+N) (show 3<4 by decide) fun j z hz=>by
   obtain ⟨rfl,hj⟩:=numsF_get hz
   obtain ⟨g1,g2⟩:=hks.cell j hj
   refine ⟨_,by rw [at_,hβ 3 (by decide),← at_]; exact g1,?_,?_⟩
   ·rw [hi' j hj]
   ·rw [hi' j hj]; exact g2
  rw [shapeO]
  have e256:(2:Nat) ^ 8=256:=rfl
  obtain ⟨gk1,gk2⟩:=hks.cell k (by omega)
  have hhop:=hopP (tabM_ok xb1_ok) hr3 (headO3 hX.hd hN k) (by decide) (νk k) (pO k (by omega) (memH h)) rfl (Nat.zero_le _) rfl (fun s1 _ _ i b hb=>by cases hb) (headI hX.hd N k 8) (mem_row hX.hd _ fun i hi=>by show (if i=5 then 7+k else i)=i; rw [if_neg (by omega)])
   (K:=Exit.then ((Code.block 2 (.loop kI)).wp Try.prog (Exit.inBlock 1 (Exit.then (o13.wp Try.prog (Exit.then (Code.rounds Try.prog kO Q (m+1)) Q)) (Exit.then (Code.rounds Try.prog kO Q (m+1)) Q)))) (Exit.inBlock 1 (Exit.then (o13.wp Try.prog (Exit.then (Code.rounds Try.prog kO Q (m+1)) Q)) (Exit.then (Code.rounds Try.prog kO Q (m+1)) Q))))
   fun s1 β' a' w' e _ hb hr'=>by
    show (Code.block 2 (.loop kI)).wp _ _ a' w'
    have lo1:∀ i,i<5→s1 (νk k i)=s i:=fun i hi=>by
     rw [show νk k i=i by unfold νk; rw [if_neg (by omega)],e i (by omega),lo i (by omega)]
    have hI:At24 w0 β0 x y h (tmI N k 8) (fun i=>s1 (νk k i)) K a' w':=⟨⟨β',hr',fun r hr=>(hb r hr).trans (hβ r hr)⟩,hX.hd,(lo1 0 (by decide)).trans hX.sx,(lo1 1 (by decide)).trans hX.sy,jn_congr hX.hd lo1 hX.jn⟩
    have h5:s1 (νk k 5)=ks.getD k 0:=(e (7+k) (by omega)).trans (hi' k (by omega))
    refine wp_block (wp_loop_rounds 9 ?_)
    refine inner hon N k (ks.getD k 0) 8 (Nat.le_refl _) hI h5 fun h2 s2' a2 w2 hh2=>?_
    show o13.wp Try.prog (Exit.then (Code.rounds Try.prog kO Q (m+1)) Q) a2 w2
    rw [e256,Nat.mod_eq_of_lt gk2] at hh2
    refine plain_hop (l:=[o13]) hh2 (headO hh2.hd N k) (headO hh2.hd N (k+1)) (pN k (by omega)) (fun _ _=>rfl) rfl (by decide) rfl fun s4 a4 w4 e4 _ hh4=>?_
    show Code.rounds Try.prog kO Q (m+1) a4 w4
    refine outer hon hN pO pN pX hks m (k+1) (by omega) hh4 fun h' s' a' w' hh=>hn h' s' a' w' ?_
    have ek:(K*256+ks.getD k 0)*256 ^ m+ofBytes (ks.drop (k+1))=K*256 ^ (m+1)+ofBytes (ks.drop k):=by
     have hd:=ofB_drop (ks:=ks) (k:=k) (m:=m) (by rw [hks.len]; exact hk)
     rw [hd,Nat.pow_succ,Nat.add_mul,Nat.mul_comm (256 ^ m) 256,← Nat.mul_assoc,Nat.add_assoc]
    rw [ek] at hh
    exact hh
  refine wp_seq (hhop _ fun a1 w1 r1=>?_)
  show (Code.seq _ _).wp _ _ a1 w1
  refine wp_seq (r1 _ fun a2 w2 r2=>?_)
  show (Code.seq _ _).wp _ _ a2 w2
  refine wp_seq (wp_block (wp_seq (r2 _ fun a3 w3 r3=>?_)))
  show (Code.seq _ _).wp _ _ a3 w3
  exact wp_seq r3
end
end P224
/- The reference's Multiple: its contract. -/
namespace P224
open Go Go.RowKit Go.Proofs
set_option maxRecDepth 100000
set_option linter.unusedVariables false
def KAtN (N:Nat) (w:World) (v:Value) (ks:List Nat):Prop :=
 ∃ b o c,v=.slice (some ⟨b,o,none⟩) N c∧N≤c∧ks.length=N∧∀ (i:Nat) x,ks[i]?=some x→w.cell? ⟨b,o+i,none⟩=some (.int .u8 (x:Int))∧x<256
inductive NewM (w:World) (v:Value) (w':World):Pt pp→Prop where
 | far (hv:v=.agg #[.bool true,.slice none 0 0,.slice none 0 0]) (hb:Below w.heap.size w w'):NewM w v w' .far
 | on (bx b2 x y:Nat) (hv:v=.agg #[.bool false,.slice (some ⟨bx,0,none⟩) 7 14,.slice (some ⟨b2,0,none⟩) 7 14]) (hn:NewEls w x y bx b2 w') (hx:x<pq) (hy:y<pq):NewM w v w' (ptN x y)
theorem NewM.of_eq {w w':World} {v:Value} {p q:Pt pp} (h:NewM w v w' p) (e:q=p):NewM w v w' q:=e ▸ h
theorem sp_on14 {s:Nums} {β:Places} {n r q:Nat} {v:Value} (h:(resAV [.agg [.lit (.bool false),.slc r 0 7 14,.slc q 0 7 14]]).rep s β n v):v=.agg #[.bool false,.slice (some (at_ β r 0)) 7 14,.slice (some (at_ β q 0)) 7 14]:=by
 obtain ⟨us,rfl,hul,huc⟩:=h
 match us,hul,huc with
 | [z0,z1,z2],_,huc =>
  have k0:z0=_:=huc 0 _ z0 rfl rfl
  have k1:=(huc 1 _ z1 rfl rfl).1
  have k2:=(huc 2 _ z2 rfl rfl).1
  rw [k0,k1,k2]
theorem newM_on {s:Nums} {β:Places} {F:Fix} {w0:World} {st:St} {a:Act} {w:World} (hr:Rel F s β w0 st a w) {r q i j x y:Nat} (m1:lookup r st.mem=some (l32s i)) (m2:lookup q st.mem=some (l32s j)) (n1:F.nold≤r) (n2:F.nold≤q) (hne:r≠q)
  (hbe:Below w0.heap.size w0 w) (e2:s i=x) (e3:s j=y) (hx:x<pq) (hy:y<pq) {v:Value} (hv:v=.agg #[.bool false,.slice (some (at_ β r 0)) 7 14,.slice (some (at_ β q 0)) 7 14]):NewM w0 v w (ptN x y):=by
 obtain ⟨p1,_⟩:=hr.mem r _ m1
 obtain ⟨p2,_⟩:=hr.mem q _ m2
 obtain ⟨f1,f2,f3⟩:=hr.fresh r n1 p1
 obtain ⟨g1,g2,g3⟩:=hr.fresh q n2 p2
 have hd:=hr.dist r q n1 n2 p1 p2 hne
 obtain ⟨u1,u2,_⟩:=row_el hr m1 n1 e2 (b:=(β r).1) (by rw [← f3])
 obtain ⟨v1,v2,_⟩:=row_el hr m2 n2 e3 (b:=(β q).1) (by rw [← g3])
 rw [at_,at_,f3,g3] at hv
 exact .on _ _ x y hv ⟨f1,f2,g1,g2,hd,u1,v1,u2,v2,hbe⟩ hx hy
theorem body24:Try.f24.body=some c24:=by kernel_rfl
theorem end_wp {fn:Func} {T:Tab} (hT:T.Ok Try.prog) {d:List (Nat × Bool)} {s:Nums} {β:Places} {w0:World} {tl:List (Nat × AV)} {ml:List (Nat × List A0)} {a:Act} {w:World} (hr:Rel (fixH 74 4 []) s β w0 (headSt tl ml 7 11) a w) (hh:HeadOk tl ml 7 11) {f:Nat} {c:Code} {rs:List Nat} {b:BriefR}
  (hb:briefR T fn rs (run T (fixH 74 4 d) f c (headSt tl ml 7 11))=some b) (ho:b.o=.ret) (hout:b.out=[]) (hsc:inScope b.nx b.exs=true) (hle:b.exs.length≤b.nx) (hn0:b.nx - b.exs.length=7)
  (hdec:∀ s1:Nums,(∀ i,i<7→s1 i=s i)→Holds s1 b.nx b.exs→Dec (fixH 74 4 d) s1) {R:Ending→World→Prop}
  (fin:∀ (s1:Nums) (st':St) (β':Places) (a':Act) (w':World) (v:Value),(∀ i,i<7→s1 i=s i)→Holds s1 b.nx b.exs→(resAV b.res).rep s1 β' st'.nr v→(rs.map fun r=>lookup r st'.mem)=b.mem→Rel (fixH 74 4 d) s1 β' w0 st' a' w'→Below w0.heap.size w0 w'→R (.returned v) w'):c.wp Try.prog (bodyPost Try.prog fn R) a w:=by
 obtain ⟨st',hrun,hnx,hexs,houts,hres,hmm⟩:=briefR_spec hb
 rw [ho] at hrun
 refine hop_wp hT hr hh (by decide) hrun hnx hexs hsc hle hn0 hdec fun s1 β' a' w' e hH hag hr'=>?_
 have hbe:=hr'.below
 rw [houts,hout] at hbe
 obtain ⟨v,hv1,hv2⟩:=results_run hT hr' hres
 exact ⟨hr'.defs,v,hv1,fin s1 st' β' a' w' v e hH hv2 hmm hr' hbe⟩
theorem meets24 {N:Nat} (hN:N=28∨N=1) (hstart:Starts N) (pO:∀ k,k<N→PlainO N k) (pN:∀ k,k<N→PlainN N k) (pX:Plain [kO] (tmO N N) (tmO N N) (.exit 0) 7 [] id) (w:World) (bf of:Nat) (v1 v2:Value) {x y:Nat} {ks:List Nat} (hfo:FoldsAt w bf of) (h1:KAtN N w v1 ks) (h2:SPt w v2 (ptN x y)) (lx:x<pq) (ly:y<pq) (hon:onN x y=1) :
  Meets Try.prog 24 #[curveV bf of,v1,v2] w fun r w'=>NewM w r w' (nsmul (ofBytes ks) (ptN x y)):=by
 refine meets_of_calls Try.func24 (by kernel_rfl) (by kernel_rfl) ?_
 obtain ⟨b1,b2,hv2,hx1,hy1⟩:∃ b1 b2,v2=.agg #[.bool false,.slice (some ⟨b1,0,none⟩) 7 7,.slice (some ⟨b2,0,none⟩) 7 7]∧El w b1 0 x∧El w b2 0 y:=by
  generalize hp:ptN x y=p at h2
  cases h2 with
  | far=>cases hp
  | on b1 b2 x' y' hv k1 k2 hx hy hon =>
   obtain ⟨rfl,rfl⟩:=ptN_inj (lt_pp lx) (lt_pp ly) (lt_pp hx) (lt_pp hy) hp
   exact ⟨b1,b2,hv,k1,k2⟩
 obtain ⟨b3,o3,c3,hv1,hc3,hlen,hk⟩:=h1
 subst hv1
 subst hv2
 have kget:∀ m,m<N→w.cell? ⟨b3,o3+m,none⟩=some (.int .u8 ((ks.getD m 0:Nat):Int))∧ks.getD m 0<256:=fun m hm=>hk m _ (by rw [List.getD_eq_getElem?_getD,List.getElem?_eq_getElem (by omega)]; rfl)
 have hNpos:0<N:=by omega
 have lt3:b3<w.heap.size:=World.block_lt_of_cell? w _ (kget 0 hNpos).1
 let β0:Places:=fun r=>if r=0 then (bf,of) else if r=1 then (b1,0) else if r=2 then (b2,0) else (b3,o3)
 let s0:Nums:=fun i=>if i=0 then x else if i=1 then y else ks.getD (i - 7) 0
 have sk:∀ m,s0 (7+m)=ks.getD m 0:=fun m=>by
  show (if 7+m=0 then x else if 7+m=1 then y else ks.getD (7+m - 7) 0)=_
  rw [if_neg (by omega),if_neg (by omega),show 7+m - 7=m by omega]
 have hargs:ArgsOk s0 β0 4 [curveAV 0,.one (.sl 3 0 N),.agg [.lit (.bool false),.slc 1 0 7 7,.slc 2 0 7 7]] [curveV bf of,.slice (some ⟨b3,o3,none⟩) N c3,.agg #[.bool false,.slice (some ⟨b1,0,none⟩) 7 7,.slice (some ⟨b2,0,none⟩) 7 7]]:=by
  refine ⟨curve_rep rfl (by decide),⟨c3,hc3,rfl,show 3<4 by decide⟩,⟨[_,_,_],rfl,rfl,fun k a z ha hz=>?_⟩,trivial⟩
  match k,ha,hz with
  | 0,ha,hz=>cases ha; cases hz; exact rfl
  | 1,ha,hz=>cases ha; cases hz; exact ⟨rfl,show 1<4 by decide⟩
  | 2,ha,hz=>cases ha; cases hz; exact ⟨rfl,show 2<4 by decide⟩
  | k+3,ha,hz=>cases ha
 have hmem:MemOk s0 β0 4 w [(0,foldCells),(1,l32s 0),(2,l32s 1),(3,numsFrom .u8 7 N)] :=
  ⟨show 0<4 by decide,fold_row rfl hfo,show 1<4 by decide,el_row rfl hx1 rfl (lt224 lx),show 2<4 by decide,el_row rfl hy1 rfl (lt224 ly),show 3<4 by decide,row_nums N 7 0 (fun m hm=>by
   rw [Nat.zero_add,sk m]
   exact kget m hm),trivial⟩
 obtain ⟨hla,hget⟩:=hargs.get
 have hr0:Rel (fixH 74 4 []) s0 β0 w (st24 N) { tmps:=[curveV bf of,Value.slice (some ⟨b3,o3,none⟩) N c3,.agg #[.bool false,.slice (some ⟨b1,0,none⟩) 7 7,.slice (some ⟨b2,0,none⟩) 7 7]].toArray ++ Array.replicate (Try.f24.ntmps - [curveV bf of,Value.slice (some ⟨b3,o3,none⟩) N c3,.agg #[.bool false,.slice (some ⟨b1,0,none⟩) 7 7,.slice (some ⟨b2,0,none⟩) 7 7]].toArray.size) undef,defers:=[] } w :=
  rel_start hla Try.ntmps24 (show 3≤74 by decide) (show 3<4095 by decide) hget hmem.get (fun r l hl hw=>by cases hw) (fun r _=>by
   show (if r=0 then (bf,of) else if r=1 then (b1,0) else if r=2 then (b2,0) else (b3,o3)).1<_
   repeat' split
   ·exact hfo.lt
   ·exact hx1.lt
   ·exact hy1.lt
   ·exact lt3) (fun r q _ _ h=>by cases h) (fun i b h=>by cases h)
 refine calls_of_wp Try.func24 body24 ?_
 obtain ⟨st',hrun,hout,hnx,hexs,hnr,htm,hmm⟩:=peekS_spec hstart
 have row:Row24 w β0 N ks:=⟨hlen,fun i hi=>by
  have:=kget i hi
  exact this⟩
 have fin:∀ (h':Hd) (s':Nums) (a':Act) (w':World),At24 w β0 x y h' (tmO N N) s' (ofBytes ks) a' w'→kP.wp Try.prog (bodyPost Try.prog Try.f24 fun e w''=>∃ v,e=.returned v∧NewM w v w'' (nsmul (ofBytes ks) (ptN x y))) a' w':=fun h' s' a' w' hX=>by
  obtain ⟨β,hr,hβ⟩:=hX.rel
  have hp:=nsmul_on fine (onN_on hon) (ofBytes ks)
  have zE:∀ s1:Nums,(∀ i,i<7→s1 i=s' i)→h'.X.val s1=h'.X.val s'∧h'.Y.val s1=h'.Y.val s'∧h'.Z.val s1=h'.Z.val s':=fun s1 e=>by
   have hd:=hX.hd
   cases hd
   ·exact ⟨e 2 (by decide),e 3 (by decide),e 4 (by decide)⟩
   ·exact ⟨e 0 (by decide),e 1 (by decide),rfl⟩
   ·exact ⟨rfl,rfl,rfl⟩
  obtain ⟨hj,lz⟩:=hX.jn
  by_cases hz:h'.Z.val s'=0
  ·have hfar:nsmul (ofBytes ks) (ptN x y)=.far:=by
    cases hq:nsmul (ofBytes ks) (ptN x y) with
    | far=>rfl
    | pt u v =>
     rw [hq] at hj
     exact absurd (show fi pp (h'.Z.val s')=0 by rw [hz]; rfl) hj.1
   refine end_wp (tabM_ok xb1_ok) hr (headO hX.hd N N) (endF N hX.hd) rfl rfl (by cases hX.hd <;> decide +kernel) (by show 1≤8; decide) rfl (fun s1 e hH=>dec_of fun i b hb=>?_) fun s1 st1 β1 a1 w1 v e hH hv _ hr1 hbe=>?_
   ·simp only [List.mem_cons,List.not_mem_nil,or_false,Prod.mk.injEq] at hb
    obtain ⟨rfl,rfl⟩:=hb
    have e7:s1 7=if h'.Z.val s1=0 then 1 else 0:=hH.1
    rw [(zE s1 e).2.2,if_pos hz] at e7
    exact e7
   ·exact ⟨v,rfl,(NewM.far (sp_far hv) hbe).of_eq hfar⟩
  ·have hne:nsmul (ofBytes ks) (ptN x y)≠.far:=fun hq=>by
    rw [hq] at hj
    exact hz (of_fi0 hj lz)
   have eq:=on_eq hne
   refine end_wp (tabM_ok xb1_ok) hr (headO hX.hd N N) (endA N hX.hd) rfl rfl (by cases hX.hd <;> decide +kernel) (by show 6≤13; decide) rfl (fun s1 e hH=>dec_of fun i b hb=>?_) fun s1 st1 β1 a1 w1 v e hH hv hm hr1 hbe=>?_
   ·simp only [List.mem_cons,List.not_mem_nil,or_false,Prod.mk.injEq] at hb
    obtain ⟨rfl,rfl⟩:=hb
    have e7:s1 7=if h'.Z.val s1=0 then 1 else 0:=hH.2.2.2.2.2.1
    rw [(zE s1 e).2.2,if_neg hz] at e7
    exact e7
   ·obtain ⟨h12,h11,h10,h9,h8,_,_⟩:=hH
    obtain ⟨zx,zy,zz⟩:=zE s1 e
    have e8:s1 8=finvq (h'.Z.val s1):=h8
    have e9:s1 9=s1 8*s1 8 % pq:=h9
    have e10:s1 10=h'.X.val s1*s1 9 % pq:=h10
    have e11:s1 11=s1 9*s1 8 % pq:=h11
    have e12:s1 12=h'.Y.val s1*s1 11 % pq:=h12
    rw [zz] at e8
    rw [zx] at e10
    rw [zy] at e12
    rw [eq] at hj
    obtain ⟨j1,j2⟩:=jaff hj
    have g10:s1 10=xOf (nsmul (ofBytes ks) (ptN x y)):=by
     have:fi pp (s1 10)=fi pp (xOf (nsmul (ofBytes ks) (ptN x y))):=by
      rw [fi_fmul e10,fi_fmul e9,e8,fi_finvq]
      exact j1
     have h:=of_fi this (by rw [e10]; exact lt_pp (Nat.mod_lt _ pq_pos))
     rw [h,fi_val,Nat.mod_eq_of_lt (lt_pp (xOf_lt _))]
    have g12:s1 12=yOf (nsmul (ofBytes ks) (ptN x y)):=by
     have:fi pp (s1 12)=fi pp (yOf (nsmul (ofBytes ks) (ptN x y))):=by
      rw [fi_fmul e12,fi_fmul e11,fi_fmul e9,e8,fi_finvq]
      exact j2
     have h:=of_fi this (by rw [e12]; exact lt_pp (Nat.mod_lt _ pq_pos))
     rw [h,fi_val,Nat.mod_eq_of_lt (lt_pp (yOf_lt _))]
    have hm':[lookup 15 st1.mem,lookup 17 st1.mem]=[some (l32s 10),some (l32s 12)]:=hm
    injection hm' with m1 m2
    injection m2 with m2 _
    exact ⟨v,rfl,(newM_on hr1 m1 m2 (show 4≤15 by decide) (show 4≤17 by decide) (by decide) hbe g10 g12 (xOf_lt _) (yOf_lt _) (sp_on14 hv)).of_eq eq⟩
 have reach:=runL_reach (tabM_ok xb1_ok) hr0 hrun (by rw [hexs]; trivial) (K:=Exit.then ((Code.block 0 (.loop kO)).wp Try.prog (Exit.then (kP.wp Try.prog (bodyPost Try.prog Try.f24 fun e w''=>∃ v,e=.returned v∧NewM w v w'' (nsmul (ofBytes ks) (ptN x y)))) (bodyPost Try.prog Try.f24 fun e w''=>∃ v,e=.returned v∧NewM w v w'' (nsmul (ofBytes ks) (ptN x y)))))
   (Exit.then (kP.wp Try.prog (bodyPost Try.prog Try.f24 fun e w''=>∃ v,e=.returned v∧NewM w v w'' (nsmul (ofBytes ks) (ptN x y)))) (bodyPost Try.prog Try.f24 fun e w''=>∃ v,e=.returned v∧NewM w v w'' (nsmul (ofBytes ks) (ptN x y))))) fun β' a' w' hag hr'=>by
  show (Code.block 0 (.loop kO)).wp _ _ a' w'
  have hr1:Rel (fixH 74 4 []) s0 (fun r=>β' (ρs r)) w (headSt (tmO N 0) (memH hC) 7 11) a' w':=by
   refine hr'.renew (F2:=fixH 74 4 []) rfl rfl rfl rfl (fun _=>rfl) hout (ρ:=ρs) (ν:=id) (fun i _=>rfl) ?_ (headO .c N 0).tb ?_ (headO .c N 0).mb ?_ (fun i b h=>by cases h)
   ·have:=htm
    rw [List.map_map] at this
    exact this
   ·have:=hmm
    rw [List.map_map] at this
    exact this
   ·have:=renOk_dec (nold:=4) (nr2:=11) (nr:=14) (ρ:=ρs) (by decide)
    exact ⟨this.old,fun r h1 h2=>⟨(this.new r h1 h2).1,Nat.lt_of_lt_of_le (this.new r h1 h2).2 hnr⟩,this.inj,this.le⟩
  have hX:At24 w β0 x y hC (tmO N 0) s0 0 a' w':=by
   refine ⟨⟨_,hr1,fun r hr=>?_⟩,.c,rfl,rfl,?_⟩
   ·show β' (ρs r)=β0 r
    rw [show ρs r=r by unfold ρs; rw [if_neg (by omega),if_neg (by omega),if_neg (by omega)]]
    exact hag r hr
   ·rw [show nsmul 0 (ptN x y)=.far by rw [nsmul]]
    exact ⟨show fi pp 0=0 from rfl,show 0<pq from pq_pos⟩
  refine wp_block (wp_loop_rounds (N+1) ?_)
  refine outer hon hN pO pN pX row N 0 (Nat.zero_add N) hX fun h' s' a2 w2 hh=>?_
  rw [Nat.zero_mul,Nat.zero_add,List.drop_zero] at hh
  exact fin h' s' a2 w2 hh
 rw [shape24']
 refine wp_seq (reach _ fun a1 w1 r1=>?_)
 show (Code.seq _ _).wp _ _ a1 w1
 refine wp_seq (r1 _ fun a2 w2 r2=>?_)
 show (Code.seq _ _).wp _ _ a2 w2
 refine wp_seq (r2 _ fun a3 w3 r3=>?_)
 show (Code.seq _ _).wp _ _ a3 w3
 exact wp_seq (wp_seq r3)
end P224
/- The reference's Multiple, as a call that the executor knows. -/
namespace P224
open Go Go.RowKit Go.Proofs
set_option maxRecDepth 100000
set_option linter.unusedVariables false
def elG (F:Fix) (st:St) (r:Nat):Option Nat:=match lookup r st.mem with
 | some (.l32 i k :: l)=>bif sameAll (.l32 i k :: l) (l32s i) && decide (F.nold≤r) then some i else none
 | _=>none
section
variable {s:Nums} {β:Places} {F:Fix} {w0:World} {st:St} {a:Act} {w:World}
theorem elG_ok (hr:Rel F s β w0 st a w) {r i:Nat} (h:elG F st r=some i):El w (β r).1 0 (s i)∧(β r).2=0∧r<st.nr:=by
 unfold elG at h
 split at h
 ·rename_i j k l hl
  obtain ⟨hd,h⟩:=bif_some h
  cases h
  simp only [Bool.and_eq_true,decide_eq_true_eq] at hd
  obtain ⟨h1,h2⟩:=hd
  rw [sameAll_eq h1] at hl
  obtain ⟨hrn,_⟩:=hr.mem r _ hl
  obtain ⟨_,_,f3⟩:=hr.fresh r h2 hrn
  obtain ⟨u,_,_⟩:=row_el hr hl h2 rfl (b:=(β r).1) (by rw [← f3])
  exact ⟨u,f3,hrn⟩
 ·cases h
theorem sptG_rep (hr:Rel F s β w0 st a w) {r1 r2 i j:Nat} (h1:elG F st r1=some i) (h2:elG F st r2=some j) (l1:s i<pq) (l2:s j<pq) (hon:onN (s i) (s j)=1) {v:Value}
  (hv:(AV.agg [.lit (.bool false),.slc r1 0 7 7,.slc r2 0 7 7]).rep s β st.nr v):SPt w v (ptN (s i) (s j)):=by
 obtain ⟨us,rfl,hul,huc⟩:=hv
 obtain ⟨e1,z1,_⟩:=elG_ok hr h1
 obtain ⟨e2,z2,_⟩:=elG_ok hr h2
 match us,hul,huc with
 | [u0,u1,u2],_,huc =>
  have k0:u0=_:=huc 0 _ u0 rfl rfl
  have k1:=(huc 1 _ u1 rfl rfl).1
  have k2:=(huc 2 _ u2 rfl rfl).1
  rw [at_,z1] at k1
  rw [at_,z2] at k2
  exact .on _ _ _ _ (by rw [k0,k1,k2]) e1 e2 l1 l2 hon
end
theorem NewM.is_far {w w':World} {v:Value} {p:Pt pp} (h:NewM w v w' p) (hp:p=.far):v=.agg #[.bool true,.slice none 0 0,.slice none 0 0]∧Below w.heap.size w w':=by
 cases h with
 | far hv hb=>exact ⟨hv,hb⟩
 | on bx b2 x y hv hn hx hy=>cases hp
theorem NewM.is_on {w w':World} {v:Value} {p:Pt pp} (h:NewM w v w' p) {x y:Nat} (hp:p=ptN x y) (hx:x<pq) (hy:y<pq):∃ bx b2,v=.agg #[.bool false,.slice (some ⟨bx,0,none⟩) 7 14,.slice (some ⟨b2,0,none⟩) 7 14]∧NewEls w x y bx b2 w':=by
 cases h with
 | far hv hb=>cases hp
 | on bx b2 x' y' hv hn hx' hy' =>
  obtain ⟨rfl,rfl⟩:=ptN_inj (lt_pp hx') (lt_pp hy') (lt_pp hx) (lt_pp hy) hp
  exact ⟨bx,b2,hv,hn⟩
def is128 (N:Nat):Bool:=N == 28 || N == 1
theorem meets24' {N:Nat} (hN:is128 N=true) (w:World) (bf of:Nat) (v1 v2:Value) {x y:Nat} {ks:List Nat} (hfo:FoldsAt w bf of) (h1:KAtN N w v1 ks) (h2:SPt w v2 (ptN x y)) (lx:x<pq) (ly:y<pq) (hon:onN x y=1) :
  Meets Try.prog 24 #[curveV bf of,v1,v2] w fun r w'=>NewM w r w' (nsmul (ofBytes ks) (ptN x y)):=by
 simp only [is128,Bool.or_eq_true,beq_iff_eq] at hN
 rcases hN with rfl | rfl
 ·exact meets24 (.inl rfl) starts28 (fun k=>pO28) (fun k=>pN28) pX28 w bf of v1 v2 hfo h1 h2 lx ly hon
 ·exact meets24 (.inr rfl) starts1 (fun k=>pO1) (fun k=>pN1) pX1 w bf of v1 v2 hfo h1 h2 lx ly hon
def mulE (i j:Nat) (ws:List Wd) (l:List Ex):List Ex:=.op 2 ws :: .op 20 [.v i,.v j] :: .op 4 [.v j,.c pq] :: .op 4 [.v i,.c pq] :: l
def v3 (i j k:Nat):List Wd:=[.v i,.v j,.v k]
def x24a:X:=fun F st args=>match args with
 | [cv,.one k,.agg [.lit (.bool false),.slc r1 0 7 7,.slc r2 0 7 7]]=>match isCurve st cv,k.asSl,elG F st r1,elG F st r2 with
  | some _,some (r,o,N),some i,some j=>match wordsAt .u8 st.mem r o N with
   | some ws=>bif is128 N && F.dec st.nx == some true && F.dec (st.nx+1) == some true && F.dec (st.nx+2) == some true then
     match F.dec (st.nx+4) with
     | some true=>some (.agg [.lit (.bool true),.lit (.slice none 0 0),.lit (.slice none 0 0)],{ st with nx:=st.nx+5,exs:=.op 25 (v3 i j (st.nx+3)) :: mulE i j ws st.exs })
     | some false=>some (.agg [.lit (.bool false),.slc st.nr 0 7 14,.slc (st.nr+1) 0 7 14],{ st with mem:=(st.nr+1,l32s (st.nx+6)) :: (st.nr,l32s (st.nx+5)) :: st.mem,nr:=st.nr+2,nx:=st.nx+7,exs:=.op 27 (v3 i j (st.nx+3)) :: .op 26 (v3 i j (st.nx+3)) :: .op 25 (v3 i j (st.nx+3)) :: mulE i j ws st.exs })
     | none=>none
    else none
   | none=>none
  | _,_,_,_=>none
 | _=>none
theorem katN_of {s:Nums} {β:Places} {F:Fix} {w0:World} {st:St} {a:Act} {w:World} (hr:Rel F s β w0 st a w) {x:A0} {v:Value} {r o N:Nat} {ws:List Wd} (hk:x.asSl=some (r,o,N)) (hv:x.rep s β st.nr v) (hw:wordsAt .u8 st.mem r o N=some ws):KAtN N w v (ws.map (Wd.val s)):=by
 obtain ⟨⟨c,hva,hca⟩,_⟩:=asSl_rep hk hv
 obtain ⟨l1,l2,l3⟩:=wordsAt_rep hr hw
 exact ⟨_,_,c,hva,hca,by rw [List.length_map,l1],fun i x hx=>by
  rw [List.getElem?_map] at hx
  cases hj:ws[i]? with
  | none=>rw [hj] at hx; cases hx
  | some y =>
   rw [hj] at hx
   cases hx
   obtain ⟨g1,g2⟩:=l3 i y hj
   rw [at_,← Nat.add_assoc] at g1
   exact ⟨g1,g2⟩⟩
theorem lt_dec {a b:Nat} (h:(1:Nat)=if a<b then 1 else 0):a<b:=by
 by_cases hh:a<b
 ·exact hh
 ·rw [if_neg hh] at h; cases h
theorem x24a_ok:XOk Try.prog 24 x24a:=by
 refine ⟨fun {F st st' args av} h=>?_,fun {s β F w0 st st' a w args vs av} hr h hargs hH=>?_⟩
 ·unfold x24a at h
  split at h
  ·split at h
   ·split at h
    ·obtain ⟨_,h⟩:=bif_some h
     split at h
     ·cases h; exact ⟨⟨[_,_,_,_,_],rfl,rfl⟩,Nat.le_refl _⟩
     ·cases h; exact ⟨⟨[_,_,_,_,_,_,_],rfl,rfl⟩,Nat.le_add_right _ _⟩
     ·cases h
    ·cases h
   ·cases h
  ·cases h
 ·unfold x24a at h
  split at h
  ·rename_i cv k r1 r2
   split at h
   ·rename_i q r o N i j hcv hk h1 h2
    split at h
    ·rename_i ws hw
     obtain ⟨hd,h⟩:=bif_some h
     simp only [Bool.and_eq_true,beq_iff_eq] at hd
     obtain ⟨⟨⟨hN,hd1⟩,hd2⟩,hd3⟩:=hd
     obtain ⟨u0,u1,u2,rfl,hu0,hu1,hu2⟩:=avs3 hargs
     obtain ⟨rf,of⟩:=q
     obtain ⟨c0,c1,c2⟩:=isCurve_rep hr hcv hu0
     have d1:=hr.dec _ _ hd1
     have d2:=hr.dec _ _ hd2
     have d3:=hr.dec _ _ hd3
     have main:∀ l,Holds s (st.nx+4) (mulE i j ws l)→s (st.nx+3)=ofBytes (ws.map (Wd.val s))∧Meets Try.prog 24 #[u0,u1,u2] w fun r w'=>NewM w r w' (mulN (s i) (s j) (s (st.nx+3))):=fun l hl=>by
      obtain ⟨m3,m2,m1,m0,_⟩:=hl
      have e0:s st.nx=if s i<pq then 1 else 0:=m0
      have e1:s (st.nx+1)=if s j<pq then 1 else 0:=m1
      have e2:s (st.nx+2)=onN (s i) (s j):=m2
      have e3:s (st.nx+3)=ofBytes (ws.map (Wd.val s)):=m3
      rw [d1] at e0
      rw [d2] at e1
      rw [d3] at e2
      have l1:=lt_dec e0
      have l2:=lt_dec e1
      refine ⟨e3,?_⟩
      rw [c0,e3]
      exact meets24' hN w _ _ _ _ c1 (katN_of hr hk hu1 hw) (sptG_rep hr h1 h2 l1 l2 e2.symm hu2) l1 l2 e2.symm
     split at h
     ·rename_i hd5
      cases h
      have d5:=hr.dec _ _ hd5
      obtain ⟨_,hme⟩:=main _ hH.2
      have e5:s (st.nx+4)=farOf (mulN (s i) (s j) (s (st.nx+3))):=hH.1
      rw [d5] at e5
      intro o' a' next Q hn
      refine hme o' a' next Q fun r w' hnew=>hn _ _ ?_
      rcases farOf_cases (mulN (s i) (s j) (s (st.nx+3))) with ⟨_,g⟩|⟨g,_⟩
      ·obtain ⟨hv,hb⟩:=hnew.is_far g
       refine ⟨β,Agree.refl _ _,⟨[_,_,_],hv,rfl,fun k a x ha hx=>?_⟩,(hr.kept hb).nums _ _⟩
       match k,ha,hx with
       | 0,ha,hx=>cases ha; cases hx; exact rfl
       | 1,ha,hx=>cases ha; cases hx; exact rfl
       | 2,ha,hx=>cases ha; cases hx; exact rfl
       | k+3,ha,hx=>cases ha
      ·rw [g] at e5; cases e5
     ·rename_i hd5
      cases h
      have d5:=hr.dec _ _ hd5
      obtain ⟨_,hme⟩:=main _ hH.2.2.2
      have e5:s (st.nx+4)=farOf (mulN (s i) (s j) (s (st.nx+3))):=hH.2.2.1
      have ex:s (st.nx+5)=xOf (mulN (s i) (s j) (s (st.nx+3))):=hH.2.1
      have ey:s (st.nx+6)=yOf (mulN (s i) (s j) (s (st.nx+3))):=hH.1
      rw [d5] at e5
      intro o' a' next Q hn
      refine hme o' a' next Q fun r w' hnew=>hn _ _ ?_
      rcases farOf_cases (mulN (s i) (s j) (s (st.nx+3))) with ⟨g,_⟩|⟨_,g⟩
      ·rw [g] at e5; cases e5
      ·obtain ⟨bx,b2,hv,hels⟩:=hnew.is_on g (xOf_lt _) (yOf_lt _)
       obtain ⟨β',g1,g2,g3,g4⟩:=hr.els hels ex ey
       refine ⟨β',g1,⟨[_,_,_],hv,rfl,fun k a x ha hx=>?_⟩,g4.nums _ _⟩
       match k,ha,hx with
       | 0,ha,hx=>cases ha; cases hx; exact rfl
       | 1,ha,hx=>cases ha; cases hx; exact ⟨by rw [at_,g2],Nat.lt_succ_of_lt (Nat.lt_succ_self _)⟩
       | 2,ha,hx=>cases ha; cases hx; exact ⟨by rw [at_,g3],Nat.lt_succ_self _⟩
       | k+3,ha,hx=>cases ha
     ·cases h
    ·cases h
   ·cases h
  ·cases h
noncomputable def x24:X:=X.or x24a (inlX (tabX true [] xq2) 2000 Try.f24)
theorem x24_ok:XOk Try.prog 24 x24:=X.or_ok x24a_ok (inlX_ok (tabX_ok noPrims_ok xq2_ok) 2000 Try.func24 (by kernel_rfl))
end P224
/- The rest of a byte by 4; the tables of the laws on the generator. -/
namespace P224
open Go Go.RowKit Go.Proofs
set_option maxRecDepth 100000
set_option linter.unusedVariables false
def fixG (nt n:Nat) (d:List (Nat × Bool)) (np:List (Nat × (Nat × Nat))):Fix:={ nt:=nt,nold:=n,wr:=fun _=>false,sep:=fun _ _=>false,dec:=fun i=>findT i d,np:=fun r=>findT r np }
theorem map_bs28G (s:Nums) (i:Nat):(bs28 i).map (Wd.val s)=(List.range 28).map fun k=>by8 (27 - k) (s i):=by
 rw [bs28,List.map_map]
 rfl
theorem same_ptG {s:Nums} {i j k l n:Nat} (h:s n=opVal 19 (((Wd.c 4 :: (bs28 i ++ bs28 j)) ++ (Wd.c 4 :: (bs28 k ++ bs28 l))).map (Wd.val s))) (h1:s i=s k) (h2:s j=s l):s n=1:=by
 rw [List.map_append] at h
 rw [h,opVal_19 _ _ (by simp [bs28])]
 rw [if_pos]
 simp only [List.map_cons,List.map_append,map_bs28G,h1,h2]
theorem on_onG {x y:Nat} (h:OnC bb (ptN x y)):onN x y=1:=by
 unfold onN
 exact if_pos h
theorem on_ofG {p:Pt pp} (h:OnC bb p) (hn:farOf p=0):onN (xOf p) (yOf p)=1:=by
 have he:p=ptN (xOf p) (yOf p):=on_eq fun e=>by rw [e] at hn; cases hn
 exact on_onG (he ▸ h)
theorem mul_casesG {x y:Nat} (hon:onN x y=1) (k:Nat):(farOf (mulN x y k)=1∧mulN x y k=.far) ∨
  ∃ X Y,farOf (mulN x y k)=0∧xOf (mulN x y k)=X∧yOf (mulN x y k)=Y∧X<pq∧Y<pq∧onN X Y=1∧mulN x y k=ptN X Y:=by
 rcases farOf_cases (mulN x y k) with h | ⟨h1,h2⟩
 ·exact .inl h
 ·exact .inr ⟨_,_,h1,rfl,rfl,xOf_lt _,yOf_lt _,on_ofG (nsmul_on fine (onN_on hon) k) h1,h2⟩
end P224
/- The table of law ScalarMult. -/
namespace P224
open Go Go.RowKit Go.Proofs
set_option maxRecDepth 100000
set_option linter.unusedVariables false
noncomputable def xt14:List (Nat × X):=(24,x24) :: (45,x45) :: (46,x46) :: (28,X.or x28g x28) :: xm1
theorem xt14_ok:XsOk xt14:=xcons_ok x24_ok (xcons_ok x45_ok (xcons_ok x46_ok (xcons_ok (X.or_ok x28g_ok x28_ok) xm1_ok)))
end P224
/- The base point's numbers, and multiples of it beyond the order. -/
namespace P224
open Go Go.RowKit Go.Proofs
set_option maxRecDepth 100000
set_option linter.unusedVariables false
def gxB:List Nat:=[183,14,12,189,107,180,191,127,50,19,144,185,74,3,193,211,86,194,17,34,52,50,128,214,17,92,29,33]
def gyB:List Nat:=[189,55,99,136,181,247,35,251,76,34,223,230,205,67,117,160,90,7,71,100,68,213,129,153,133,0,126,52]
theorem gxB_val:ofBytes gxB=gxN:=by decide +kernel
theorem gyB_val:ofBytes gyB=gyN:=by decide +kernel
theorem gx_lt:gxN<pq:=by decide +kernel
theorem gy_lt:gyN<pq:=by decide +kernel
theorem gx_mod:gxN % pq=gxN:=Nat.mod_eq_of_lt gx_lt
theorem gy_mod:gyN % pq=gyN:=Nat.mod_eq_of_lt gy_lt
theorem gx_mul1:gxN*1 % pq=gxN:=by rw [Nat.mul_one,gx_mod]
theorem gy_mul1:gyN*1 % pq=gyN:=by rw [Nat.mul_one,gy_mod]
theorem finv1:finvq 1=1:=by rw [finvq_def,Nat.one_pow,mod_one_pq]
theorem gg_onN:onN gxN gyN=1:=on_onG gg_on
end P224
