/- More operations: bools that differ. -/
import Derived.Test.YtccmmkgiamcgeaaHQ3
import Derived.Test.YtccmmkgiamcgeaaHU4
import Derived.Test.YtccmmkgiamcgeaaHU7
import Derived.Test.YtccmmkgiamcgeaaHP1
import Derived.Test.YtccmmkgiamcgeaaHT9
set_option linter.all false
namespace P224
open Go Go.RowKit Go.Proofs
set_option maxRecDepth 100000
set_option linter.unusedVariables false
theorem bool_neq_run {P:Program} {t:TypeId} (hu:P.underlying t=some .bool) (a b:Bool) (w:World):(binOp .neq t (.bool a) (.bool b)).run P w=.ok (.bool (a != b)) w:=by
 have h:∀ d:Nat,(Op.equalIn (d+1) t (.bool a) (.bool b)).run P w=.ok (a == b) w:=fun d=>by
  simp [Op.equalIn,run_underlying hu]
 simp only [binOp]
 simp [Op.equal,Op.maxDepth,h 9999]
 cases a <;> cases b <;> rfl
def qNeq:Qx:=fun F _ st op=>match op with
 | .binOp .neq t x y _=>bif t == 4 then (match st.ev x,st.ev y with
  | .one (.lit (.bool a)),.one (.lit (.bool b))=>some (.one (.lit (.bool (a != b))),[])
  | .one (.bl i),.one (.lit (.bool b))=>match F.dec i with
   | some a=>some (.one (.lit (.bool (a != b))),[])
   | none=>none
  | .one (.lit (.bool b)),.one (.bl i)=>match F.dec i with
   | some a=>some (.one (.lit (.bool (b != a))),[])
   | none=>none
  | .one (.bl i),.one (.bl j)=>match F.dec i,F.dec j with
   | some a,some b=>some (.one (.lit (.bool (a != b))),[])
   | _,_=>none
  | _,_=>none) else none
 | _=>none
theorem qNeq_ok:QextOk Try.prog qNeq:=by
 intro s β F L st a o av l m hd h ht hH w0 hw0
 unfold qNeq at h
 split at h
 ·rename_i t x y t' ho
  obtain ⟨h4,h⟩:=bif_some h
  have h4:=beq_iff_eq.1 h4
  subst h4
  have hx:=ev_rep ht x
  have hy:=ev_rep ht y
  have main:∀ p q:Bool,a.eval x=.bool p→a.eval y=.bool q→∃ u,(AV.one (.lit (.bool (p != q)))).rep s β st.nr u∧∀ w,Reads s β st.nr L st.mem w→(execOp a.eval o).run Try.prog w=.ok (.value u) w:=fun p q hp hq=>by
   refine ⟨_,rfl,fun w _=>?_⟩
   simp only [execOp,ho,hp,hq,Sem.run_bind,guard_bool,Result.andThen,bool_neq_run Try.underlying4,Sem.run_pure]
  split at h
  ·rename_i p q h1 h2
   cases h
   rw [h1] at hx
   rw [h2] at hy
   exact main p q hx hy
  ·rename_i i q h1 h2
   rw [h1] at hx
   rw [h2] at hy
   split at h
   ·rename_i p hp
    cases h
    exact main p q (bl_dec (β:=β) (n:=st.nr) hd hp hx) hy
   ·cases h
  ·rename_i p j h1 h2
   rw [h1] at hx
   rw [h2] at hy
   split at h
   ·rename_i q hq
    cases h
    exact main p q hx (bl_dec (β:=β) (n:=st.nr) hd hq hy)
   ·cases h
  ·rename_i i j h1 h2
   rw [h1] at hx
   rw [h2] at hy
   split at h
   ·rename_i p q hp hq
    cases h
    exact main p q (bl_dec (β:=β) (n:=st.nr) hd hp hx) (bl_dec (β:=β) (n:=st.nr) hd hq hy)
   ·cases h
  ·cases h
 ·cases h
def tabU2 (xs:List (Nat × X)):Tab:={ tabQ xs with qext:=Qx.or qNeq (tabQ xs).qext }
theorem tabU2_ok {xs:List (Nat × X)} (hx:∀ f g,(f,g) ∈ xs→XOk Try.prog f g):(tabU2 xs).Ok Try.prog :=
 let h:=tabQ_ok hx
 {
  mixed:=h.mixed,arr:=h.arr,fld:=h.fld,var:=h.var,zero:=h.zero,bld:=h.bld,slc:=h.slc,mks:=h.mks,kind:=h.kind,elem:=h.elem,prim:=h.prim,lext:=h.lext
  qext:=QextOk.or qNeq_ok h.qext }
end P224
/- The tables of law ParseShort. -/
namespace P224
open Go Go.RowKit Go.Proofs
set_option maxRecDepth 100000
set_option linter.unusedVariables false
noncomputable def xu0a:List (Nat × X):=with1 ((66,x66) :: xq1) [] 2000 27 Try.f27
theorem xu0a_ok:XsOk xu0a:=with1_ok noPrims_ok (xcons_ok x66_ok xq1_ok) Try.func27 (by kernel_rfl)
noncomputable def xu0:List (Nat × X):=(29,inlX (tabA [] xq1) 2000 Try.f29) :: xu0a
theorem xu0_ok:XsOk xu0:=xcons_ok (inlX_ok (tabA_ok noPrims_ok xq1_ok) 2000 Try.func29 (by kernel_rfl)) xu0a_ok
noncomputable def xu1a:List (Nat × X):=(105,x105) :: xu85
theorem xu1a_ok:XsOk xu1a:=xcons_ok x105_ok xu85_ok
noncomputable def xu1:List (Nat × X):=with1 (with1 (with1 (with1 xu1a pointPrims 2000 102 Try.f102) pointPrims 2000 73 Try.f73) pointPrims 2000 81 Try.f81) pointPrims 2000 86 Try.f86
theorem xu1_ok:XsOk xu1:=with1_ok pointPrims_ok (with1_ok pointPrims_ok (with1_ok pointPrims_ok (with1_ok pointPrims_ok xu1a_ok Try.func102 (by kernel_rfl)) Try.func73 (by kernel_rfl)) Try.func81 (by kernel_rfl)) Try.func86 (by kernel_rfl)
noncomputable def xu2:List (Nat × X):=with1 (with1 (with1 (with1 xu1 pointPrims 2000 53 Try.f53) pointPrims 2000 62 Try.f62) pointPrims 2000 85 Try.f85) pointPrims 2000 61 Try.f61
theorem xu2_ok:XsOk xu2:=with1_ok pointPrims_ok (with1_ok pointPrims_ok (with1_ok pointPrims_ok (with1_ok pointPrims_ok xu1_ok Try.func53 (by kernel_rfl)) Try.func62 (by kernel_rfl)) Try.func85 (by kernel_rfl)) Try.func61 (by kernel_rfl)
noncomputable def xu3:List (Nat × X):=with1 xu2 pointPrims 2000 26 Try.f26
theorem xu3_ok:XsOk xu3:=with1_ok pointPrims_ok xu2_ok Try.func26 (by kernel_rfl)
noncomputable def xu4:List (Nat × X):=(22,x22) :: (28,x28) :: (xu0 ++ xu3)
theorem xu4_ok:XsOk xu4:=xcons_ok x22_ok (xcons_ok x28_ok (xu0_ok.app xu3_ok))
noncomputable def c4:Code:=Try.f4.body.getD .skip
end P224
/- Law ParseShort: its runs. -/
namespace P224
open Go Go.RowKit Go.Proofs
set_option maxRecDepth 100000
set_option linter.unusedVariables false
def pre4:List Ex:=[.fcst 0,.fcst 0,.fcst 1,.fcst 0,.fcst 0]
def spc4 (o:Nat) (l:List Ex):List Ex :=
 .op 35 [.v (o+7)] :: .fadd (.v (o+5)) (.v (o+6)) :: .fcst bq :: .op 14 [.v (o+3),.v (o+4)] :: .fmul (.c 3) (.v o) :: .fmul (.v (o+2)) (.v o) :: .fmul (.v o) (.v o) :: .op 4 [.v o,.c pq] :: .op 2 (vsF 0) :: l
def rhs4:List Ex:=.fadd (.v 41) (.v 42) :: .fcst bq :: .fsub (.v 37) (.v 40) :: .fadd (.v 39) (.v 33) :: .fadd (.v 33) (.v 33) :: .fcst 0 :: .fmul (.v 36) (.v 33) :: .fmul (.v 33) (.v 33) :: .fcst 0 :: .op 4 [.v 33,.c pq] :: .op 2 (vsF 0) :: pre4
def cand4:List Ex:=.fne (.v 48) (.c 1) :: .feq (.v 47) (.v 43) :: .fmul (.v 45) (.v 45) :: .fcst 0 :: .op 34 [.v 43] :: .fcst 0 :: rhs4
def ex4q:List Ex:=spc4 59 (spc4 50 cand4)
def aff4 (e:Nat):List Ex:=.or (.c 2) (.v 74) :: .and (.b 73 0) (.c 1) :: .fmul (.v 56) (.v 69) :: .fcst 0 :: .fmul (.v 33) (.v 69) :: .fcst 0 :: .finv (.v 57) :: .fcst 0 :: .feq (.v 66) (.c 1) :: .feq (.v 57) (.c 0) ::
 .fmul (.v 56) (.v 61) :: .fcst 0 :: .fmul (.v 33) (.v 61) :: .fcst 0 :: .finv (.v 57) :: .fcst 0 :: .feq (.v 58) (.c 1) :: .feq (.v 57) (.c 0) :: .fcst 1 ::
 .sel (.v 54) (.v 45) (.v 51) :: .op 10 [.v 54,.c 1] :: .low 64 (.v 53) :: .xor (.v 52) (.c e) :: .and (.b 45 0) (.c 1) :: .fsub (.v 50) (.v 45) :: .fcst 0 :: cand4
def ex4g (e:Nat):List Ex:=.op 19 ((Wd.v 89 :: bs28 63) ++ (Wd.c (2+e) :: vsF 0)) :: .op 4 [.v 63,.c pq] :: .low 8 (.v 88) :: .add 64 (.c 2) (.v 87) :: .and (.w 65 0) (.c 1) :: .op 19 ((Wd.v 75 :: bs28 71) ++ (Wd.c (2+e) :: vsF 0)) :: .op 20 [.v 63,.v 65] :: spc4 76 (aff4 e)
def ex4x:List Ex:=.op 4 [.v 37,.c pq] :: .op 2 (vsF 0) :: .op 4 [.v 35,.c pq] :: .op 2 (vsF 0) :: .op 4 [.v 33,.c pq] :: .op 2 (vsF 0) :: pre4
def ex4n:List Ex:=[.fne (.v 0) (.c 3),.fne (.v 0) (.c 2),.fne (.v 0) (.c 3),.fne (.v 0) (.c 2),.feq (.v 0) (.c 3),.feq (.v 0) (.c 2),.fcst 0,.fcst 1,.fcst 0,.fcst 0]
def dec4g:List (Nat × Bool):=[(34,true),(49,false),(55,true),(59,false),(67,false),(77,true),(84,true),(85,true),(86,true),(90,true)]
def dec4q:List (Nat × Bool):=[(34,true),(49,true),(51,true),(58,false),(60,true),(67,false)]
def dec4x:List (Nat × Bool):=[(34,false),(36,false),(38,false)]
def dec4n:List (Nat × Bool):=[(33,false),(34,false),(35,true),(36,true),(37,true),(38,true)]
def st4 (e:Nat):St:=startSt [.one (.sl 0 0 29)] [(0,.lit (.int .u8 ((2+e:Nat):Int)) :: numsFrom .u8 0 28)] 28 1
def st4n:St:=startSt [.one (.sl 0 0 29)] [(0,numsFrom .u8 0 29)] 29 1
def Run4 (d:List (Nat × Bool)) (st:St) (n:Nat) (ex:List Ex) (r:A0):Prop:=briefR (tabU2 xu4) Try.f4 [] (runF (tabU2 xu4) (fixN 63 1 d []) 3000 Try.f4 st)=some ⟨.ret,n,ex,[],[.one r],[]⟩
theorem run4g0:Run4 dec4g (st4 0) 92 (ex4g 0) (.bl 91):=by unfold Run4; kernel_rfl
theorem run4g1:Run4 dec4g (st4 1) 92 (ex4g 1) (.bl 91):=by unfold Run4; kernel_rfl
theorem run4q0:Run4 dec4q (st4 0) 68 ex4q (.lit (.bool true)):=by unfold Run4; kernel_rfl
theorem run4q1:Run4 dec4q (st4 1) 68 ex4q (.lit (.bool true)):=by unfold Run4; kernel_rfl
theorem run4x0:Run4 dec4x (st4 0) 39 ex4x (.lit (.bool true)):=by unfold Run4; kernel_rfl
theorem run4x1:Run4 dec4x (st4 1) 39 ex4x (.lit (.bool true)):=by unfold Run4; kernel_rfl
theorem run4n:Run4 dec4n st4n 39 ex4n (.lit (.bool true)):=by unfold Run4; kernel_rfl
theorem run4l:Run4 [(3,true)] (startSt [.one (.sy 0 0)] [] 3 1) 4 [.op 3 [.c 2147483647,.v 0]] (.lit (.bool true)):=by unfold Run4; kernel_rfl
theorem run4m:Run4 [(3,false),(4,true)] (startSt [.one (.sy 0 0)] [] 3 1) 5 [.fne (.v 0) (.c 29),.op 3 [.c 2147483647,.v 0]] (.lit (.bool true)):=by unfold Run4; kernel_rfl
end P224
/- Law ParseShort: its numbers. -/
namespace P224
open Go Go.RowKit Go.Proofs
set_option maxRecDepth 100000
set_option linter.unusedVariables false
theorem fm {s:Nums} {k a b:Nat} (h:s k=a*b % pq):fi pp (s k)=fi pp a*fi pp b:=by rw [h,pq_is,fi_mod,fi_mul]
theorem fa {s:Nums} {k a b:Nat} (h:s k=(a+b) % pq):fi pp (s k)=fi pp a+fi pp b:=by rw [h,pq_is,fi_mod,fi_add]
theorem lt_of_mod {s:Nums} {k a:Nat} (h:s k=a % pq):s k<pq:=by rw [h]; exact Nat.mod_lt _ pq_pos
theorem finv_1:finvq 1=1:=by rw [finvq_def,Nat.one_pow,mod_one_pq]
theorem fi_bq:fi pp bq=bb:=rfl
section
variable {n:Nat} [NeZero n]
theorem ring_rhs (x b:Fin n):x*x*x - 3*x+b=rhs b x:=rfl
theorem ring_rhs2 (x b:Fin n):x*x*x - (x+x+x)+b=rhs b x:=by unfold rhs; grind
theorem ring_neg (r:Fin n):(0 - r)*(0 - r)=r*r:=by grind
end
theorem and_one (a:Nat):a &&& 1=a % 2:=Nat.and_two_pow_sub_one_eq_mod a 1
theorem by8_par (y:Nat):by8 0 y &&& 1=y % 2:=by
 rw [and_one]
 unfold by8
 rw [Nat.pow_zero,Nat.div_one]
 omega
theorem w_par (y:Nat):(y / 2 ^ (32*0) % 2 ^ 32) &&& 1=y % 2:=by
 rw [and_one,Nat.mul_zero,Nat.pow_zero,Nat.div_one]
 omega
theorem spc4_ok {s:Nums} {o X:Nat} {l:List Ex} (qK:ofBytes ((List.range 28).map fun i=>s (0+i))=X) (h:Holds s (o+9) (spc4 o l)) :
  s o=X∧s (o+1)=(if X<pq then 1 else 0)∧s (o+8)=isSqN (s (o+7))∧s (o+7)<pq∧fi pp (s (o+7))=rhs bb (fi pp X)∧Holds s o l:=by
 obtain ⟨h8,h7,h6,h5,h4,h3,h2,h1,h0,hl⟩:=h
 have e0:s o=X:=(show s o=ofBytes ((List.range 28).map fun i=>s (0+i)) from h0).trans qK
 have e1:s (o+1)=if s o<pq then 1 else 0:=h1
 have e2:s (o+2)=s o*s o % pq:=h2
 have e3:s (o+3)=s (o+2)*s o % pq:=h3
 have e4:s (o+4)=3*s o % pq:=h4
 have e5:s (o+5)=(((s (o+3):Int) - s (o+4)) % (pq:Int)).toNat:=h5
 have e6:s (o+6)=bq % pq:=h6
 have e7:s (o+7)=(s (o+5)+s (o+6)) % pq:=h7
 have e8:s (o+8)=isSqN (s (o+7)):=h8
 refine ⟨e0,by rw [e1,e0],e8,lt_of_mod e7,?_,hl⟩
 have k6:fi pp (s (o+6))=bb:=by rw [e6,pq_is,fi_mod,fi_bq]
 rw [fa e7,k6,e5,fi_int,fm e3,fm e2,fm e4,e0,show fi pp 3=3 from rfl]
 exact ring_rhs _ _
theorem rhs4_ok {s:Nums} {X:Nat} (qK:ofBytes ((List.range 28).map fun i=>s (0+i))=X) (h:Holds s 44 rhs4) :
  s 33=X∧s 34=(if X<pq then 1 else 0)∧s 43<pq∧fi pp (s 43)=rhs bb (fi pp X):=by
 obtain ⟨h43,h42,h41,h40,h39,_,h37,h36,_,h34,h33,_⟩:=h
 have e33:s 33=X:=(show s 33=ofBytes ((List.range 28).map fun i=>s (0+i)) from h33).trans qK
 have e34:s 34=if s 33<pq then 1 else 0:=h34
 have e36:s 36=s 33*s 33 % pq:=h36
 have e37:s 37=s 36*s 33 % pq:=h37
 have e39:s 39=(s 33+s 33) % pq:=h39
 have e40:s 40=(s 39+s 33) % pq:=h40
 have e41:s 41=(s 37+(pq - s 40)) % pq:=h41
 have e42:s 42=bq % pq:=h42
 have e43:s 43=(s 41+s 42) % pq:=h43
 refine ⟨e33,by rw [e34,e33],lt_of_mod e43,?_⟩
 have k42:fi pp (s 42)=bb:=by rw [e42,pq_is,fi_mod,fi_bq]
 have k41:fi pp (s 41)=fi pp (s 37) - fi pp (s 40):=by
  rw [e41,pq_is,fi_mod]
  exact fi_sub (Nat.le_of_lt (lt_of_mod e40))
 rw [fa e43,k42,k41,fm e37,fm e36,fa e40,fa e39,e33]
 exact ring_rhs2 _ _
theorem cand4_ok {s:Nums} {X:Nat} (qK:ofBytes ((List.range 28).map fun i=>s (0+i))=X) (h:Holds s 50 cand4) :
  s 33=X∧s 34=(if X<pq then 1 else 0)∧s 43<pq∧fi pp (s 43)=rhs bb (fi pp X)∧s 45=sqrtN (s 43)∧s 45<pq∧s 49=(if isSqN (s 43)=1 then 0 else 1):=by
 obtain ⟨h49,h48,h47,_,h45,_,hr⟩:=h
 obtain ⟨a1,a2,a3,a4⟩:=rhs4_ok qK hr
 have e45:s 45=sqrtN (s 43):=h45
 have e47:s 47=s 45*s 45 % pq:=h47
 have e48:s 48=if s 47=s 43 then 1 else 0:=h48
 have e49:s 49=if s 48=1 then 0 else 1:=h49
 obtain ⟨l45,sq⟩:=sqrtN_lt (s 43) (lt_pp a3)
 refine ⟨a1,a2,a3,a4,e45,by rw [e45]; exact l45,?_⟩
 by_cases hs:isSqN (s 43)=1
 ·have:s 47=s 43:=by rw [e47,e45]; exact sq hs
  rw [if_pos this] at e48
  rw [e49,e48,if_pos rfl,if_pos hs]
 ·have:¬ s 47=s 43:=fun e=>hs (isSq_of (lt_pp a3) (r:=s 45) (by rw [← e]; exact e47.symm))
  rw [if_neg this] at e48
  rw [e49,e48,if_neg (by decide),if_neg hs]
theorem law4x {s:Nums} {X:Nat} (qK:ofBytes ((List.range 28).map fun i=>s (0+i))=X) (hX:¬ X<pq) (h:Holds s 39 ex4x):s 34=0∧s 36=0∧s 38=0:=by
 obtain ⟨h38,h37,h36,h35,h34,h33,_⟩:=h
 have e33:s 33=X:=(show s 33=ofBytes ((List.range 28).map fun i=>s (0+i)) from h33).trans qK
 have e35:s 35=X:=(show s 35=ofBytes ((List.range 28).map fun i=>s (0+i)) from h35).trans qK
 have e37:s 37=X:=(show s 37=ofBytes ((List.range 28).map fun i=>s (0+i)) from h37).trans qK
 have e34:s 34=if s 33<pq then 1 else 0:=h34
 have e36:s 36=if s 35<pq then 1 else 0:=h36
 have e38:s 38=if s 37<pq then 1 else 0:=h38
 exact ⟨by rw [e34,e33,if_neg hX],by rw [e36,e35,if_neg hX],by rw [e38,e37,if_neg hX]⟩
theorem law4q {s:Nums} {X:Nat} (qK:ofBytes ((List.range 28).map fun i=>s (0+i))=X) (hX:X<pq) (hc:∀ c,c<pq→fi pp c=rhs bb (fi pp X)→isSqN c≠1) (h:Holds s 68 ex4q) :
  s 34=1∧s 49=1∧s 51=1∧s 58=0∧s 60=1∧s 67=0:=by
 obtain ⟨_,b2,b3,b4,b5,h⟩:=spc4_ok (o:=59) qK h
 obtain ⟨_,c2,c3,c4,c5,h⟩:=spc4_ok (o:=50) qK h
 obtain ⟨_,a2,a3,a4,_,_,a7⟩:=cand4_ok qK h
 have z:∀ c,c<pq→fi pp c=rhs bb (fi pp X)→isSqN c=0:=fun c h1 h2=>by
  rcases isSq_cases c with ⟨h3,_⟩|⟨h3,_⟩
  ·exact absurd h3 (hc c h1 h2)
  ·exact h3
 refine ⟨by rw [a2,if_pos hX],by rw [a7,if_neg (hc _ a3 a4)],c2.trans (if_pos hX),c3.trans (z _ c4 c5),b2.trans (if_pos hX),b3.trans (z _ b4 b5)⟩
theorem vals_vsF0 (s:Nums):(vsF 0).map (Wd.val s)=(List.range 28).map fun i=>s (0+i):=by
 rw [vsF,List.map_map]
 rfl
theorem bytes4 {s:Nums} {X i:Nat} (qK:ofBytes ((List.range 28).map fun i=>s (0+i))=X) (hb:∀ i,i<28→s i<256) (h:s i=X):(bs28 i).map (Wd.val s)=(List.range 28).map fun i=>s (0+i):=by
 rw [bs28,List.map_map]
 apply List.map_congr_left
 intro k hk
 have hk:=List.mem_range.1 hk
 show by8 (27 - k) (s i)=s (0+k)
 have:=ofBytes_by8 ((List.range 28).map fun i=>s (0+i)) k (fun x hx=>by
  obtain ⟨j,hj,rfl⟩:=List.mem_map.1 hx
  have:=List.mem_range.1 hj
  exact hb (0+j) (by omega)) (by rw [List.length_map,List.length_range]; exact hk)
 rw [qK,← h,List.length_map,List.length_range] at this
 rw [show 27 - k=28 - 1 - k by omega,this,List.getD_eq_getElem?_getD,List.getElem?_map,List.getElem?_range hk]
 rfl
theorem same_short {s:Nums} {X i j n e:Nat} (qK:ofBytes ((List.range 28).map fun i=>s (0+i))=X) (hb:∀ i,i<28→s i<256) (h1:s i=X) (h2:s j=2+e) (h:s n=opVal 19 (((Wd.v j :: bs28 i) ++ (Wd.c (2+e) :: vsF 0)).map (Wd.val s))):s n=1:=by
 rw [List.map_append,List.map_cons,List.map_cons,bytes4 qK hb h1,vals_vsF0] at h
 have e1:Wd.val s (.v j)=2+e:=h2
 have e2:Wd.val s (.c (2+e))=2+e:=rfl
 rw [e1,e2,opVal_19 _ _ rfl,if_pos rfl] at h
 exact h
theorem pick4 {s:Nums} {X e:Nat} (he:e=0∨e=1) (h43:s 43<pq) (hr:fi pp (s 43)=rhs bb (fi pp X)) (h45:s 45=sqrtN (s 43)) (hs:isSqN (s 43)=1) (h50:s 50=0 % pq) (h51:s 51=(s 50+(pq - s 45)) % pq) (h52:s 52=by8 0 (s 45) &&& 1)
  (h53:s 53=s 52 ^^^ e) (h54:s 54=s 53 % 2 ^ 64) (h56:s 56=if s 54=0 then s 45 else s 51):s 54≤1∧s 56<pq∧s 56 % 2=e∧onN X (s 56)=1:=by
 obtain ⟨l45,sq⟩:=sqrtN_lt (s 43) (lt_pp h43)
 have sq:=sq hs
 rw [← h45] at l45 sq
 have hf:fi pp (s 45)*fi pp (s 45)=rhs bb (fi pp X):=by rw [← fi_mul,← hr,fi_eq,sq,Nat.mod_eq_of_lt (lt_pp h43)]
 have hne:s 45≠0:=fun e0=>by
  have:fi pp (s 45)≠0:=fine.y_ne (x:=fi pp X) hf
  rw [e0] at this
  exact this rfl
 have e50:s 50=0:=by rw [h50,Nat.zero_mod]
 have l45':s 45<pq:=l45
 have e51:s 51=pq - s 45:=by rw [h51,e50,Nat.zero_add,Nat.mod_eq_of_lt (by omega)]
 have e52:s 52=s 45 % 2:=h52.trans (by8_par _)
 have odd:pq % 2=1:=by decide +kernel
 have f51:fi pp (s 51)*fi pp (s 51)=rhs bb (fi pp X):=by
  have:fi pp (s 51)=0 - fi pp (s 45):=by
   rw [h51,e50,pq_is,fi_mod]
   exact fi_sub (Nat.le_of_lt l45)
  rw [this,ring_neg,hf]
 have on:∀ y,fi pp y*fi pp y=rhs bb (fi pp X)→onN X y=1:=fun y h=>by unfold onN; rw [if_pos h]
 have p2:s 45 % 2=0∨s 45 % 2=1:=by omega
 have e53:s 53=if s 45 % 2=e then 0 else 1:=by
  rw [h53,e52]
  rcases p2 with h | h <;> rcases he with rfl | rfl <;> rw [h] <;> rfl
 have e54:s 54=s 53:=by
  rw [h54,Nat.mod_eq_of_lt]
  rw [e53]
  split <;> decide
 by_cases hp:s 45 % 2=e
 ·rw [if_pos hp] at e53
  rw [e53] at e54
  rw [if_pos e54] at h56
  rw [h56]
  exact ⟨by rw [e54]; decide,l45',hp,on _ hf⟩
 ·rw [if_neg hp] at e53
  rw [e53] at e54
  rw [if_neg (by rw [e54]; decide)] at h56
  rw [h56]
  refine ⟨by rw [e54]; decide,by rw [e51]; omega,?_,on _ f51⟩
  rw [e51]
  rcases he with rfl | rfl <;> omega
theorem law4g {s:Nums} {X e:Nat} (he:e=0∨e=1) (qK:ofBytes ((List.range 28).map fun i=>s (0+i))=X) (hb:∀ i,i<28→s i<256) (hX:X<pq) (hc:∀ c,c<pq→fi pp c=rhs bb (fi pp X)→isSqN c=1) (h:Holds s 92 (ex4g e)) :
  s 34=1∧s 49=0∧s 55=1∧s 59=0∧s 67=0∧s 77=1∧s 84=1∧s 85=1∧s 86=1∧s 90=1∧s 91=1:=by
 obtain ⟨h91,h90,h89,h88,h87,h86,h85,h⟩:=h
 obtain ⟨_,b2,b3,b4,b5,h⟩:=spc4_ok (o:=76) qK h
 obtain ⟨h75,h74,h73,_,h71,_,h69,_,h67,h66,h65,_,h63,_,h61,_,h59,h58,h57,h56,h55,h54,h53,h52,h51,h50,h⟩:=h
 obtain ⟨a1,a2,a3,a4,a5,a6,a7⟩:=cand4_ok qK h
 have hs:=hc _ a3 a4
 have e54:s 54=s 53 % 2 ^ 64:=h54
 obtain ⟨p1,p2,p3,p4⟩:=pick4 (s:=s) (X:=X) he a3 a4 a5 hs h50 h51 h52 h53 h54 h56
 have e57:s 57=1:=(show s 57=1 % pq from h57).trans mod_one_pq
 have e58:s 58=0:=(show s 58=if s 57=0 then 1 else 0 from h58).trans (if_neg (by rw [e57]; decide))
 have e59:s 59=0:=(show s 59=if s 58=1 then 1 else 0 from h59).trans (if_neg (by rw [e58]; decide))
 have e66:s 66=0:=(show s 66=if s 57=0 then 1 else 0 from h66).trans (if_neg (by rw [e57]; decide))
 have e67:s 67=0:=(show s 67=if s 66=1 then 1 else 0 from h67).trans (if_neg (by rw [e66]; decide))
 have e61:s 61=1:=(show s 61=finvq (s 57) from h61).trans (by rw [e57,finv_1])
 have e69:s 69=1:=(show s 69=finvq (s 57) from h69).trans (by rw [e57,finv_1])
 have e63:s 63=X:=(show s 63=s 33*s 61 % pq from h63).trans (by rw [a1,e61,Nat.mul_one,Nat.mod_eq_of_lt hX])
 have e65:s 65=s 56:=(show s 65=s 56*s 61 % pq from h65).trans (by rw [e61,Nat.mul_one,Nat.mod_eq_of_lt p2])
 have e71:s 71=X:=(show s 71=s 33*s 69 % pq from h71).trans (by rw [a1,e69,Nat.mul_one,Nat.mod_eq_of_lt hX])
 have e73:s 73=s 56:=(show s 73=s 56*s 69 % pq from h73).trans (by rw [e69,Nat.mul_one,Nat.mod_eq_of_lt p2])
 have e74:s 74=e:=(show s 74=by8 0 (s 73) &&& 1 from h74).trans (by rw [by8_par,e73,p3])
 have e75:s 75=2+e:=(show s 75=2 ||| s 74 from h75).trans (by rw [e74]; rcases he with rfl | rfl <;> rfl)
 have e87:s 87=e:=(show s 87=(s 65 / 2 ^ (32*0) % 2 ^ 32) &&& 1 from h87).trans (by rw [w_par,e65,p3])
 have e88:s 88=2+e:=(show s 88=(2+s 87) % 2 ^ 64 from h88).trans (by rw [e87]; rcases he with rfl | rfl <;> rfl)
 have e89:s 89=2+e:=(show s 89=s 88 % 2 ^ 8 from h89).trans (by rw [e88]; rcases he with rfl | rfl <;> rfl)
 have e90:s 90=1:=(show s 90=if s 63<pq then 1 else 0 from h90).trans (by rw [e63,if_pos hX])
 have e85:s 85=1:=(show s 85=onN (s 63) (s 65) from h85).trans (by rw [e63,e65,p4])
 have e55:s 55=1:=(show s 55=if s 54≤1 then 1 else 0 from h55).trans (if_pos p1)
 refine ⟨by rw [a2,if_pos hX],by rw [a7,if_pos hs],e55,e59,e67,b2.trans (if_pos hX),b3.trans (hc _ b4 b5),e85,?_,e90,?_⟩
 ·exact same_short qK hb e71 e75 h86
 ·exact same_short qK hb e63 e89 h91
end P224
/- Law ParseShort. -/
namespace P224
open Go Go.RowKit Go.Proofs
set_option maxRecDepth 100000
set_option linter.unusedVariables false
theorem ntmps4:Try.f4.ntmps=63:=by kernel_rfl
theorem tab4_ok:(tabU2 xu4).Ok Try.prog:=tabU2_ok xu4_ok
section
variable {w:World} {b o u:Nat}
theorem args4 (hu:29≤u) (s:Nums):ArgsOk s (fun _=>(b,o)) 1 [.one (.sl 0 0 29)] [.slice (some ⟨b,o,none⟩) 29 u]:=⟨⟨u,hu,rfl,show 0<1 by decide⟩,trivial⟩
structure At29 (w:World) (b o e:Nat) (g:Nat→Nat):Prop where
 first:w.cell? ⟨b,o,none⟩=some (.int .u8 ((2+e:Nat):Int))
 rest:∀ k,k<28→w.cell? ⟨b,o+(1+k),none⟩=some (.int .u8 (g k:Int))∧g k<256
theorem mem4 {e:Nat} {g:Nat→Nat} (h:At29 w b o e g) (s:Nums) (hs:∀ i,i<28→s i=g i):MemOk s (fun _=>(b,o)) 1 w [(0,.lit (.int .u8 ((2+e:Nat):Int)) :: numsFrom .u8 0 28)]:=by
 refine ⟨show 0<1 by decide,⟨⟨_,h.first,rfl⟩,row_nums 28 0 1 fun k hk=>?_⟩,trivial⟩
 obtain ⟨h1,h2⟩:=h.rest k hk
 rw [Nat.zero_add,hs k hk]
 exact ⟨h1,h2⟩
theorem dec4_of {s:Nums} {d:List (Nat × Bool)} (h:∀ i c,(i,c) ∈ d→s i=c.toNat):Dec (fixN 63 1 d []) s:=fun i c hc=>h i c (findT_mem (show findT i d=some c from hc))
theorem call4 {e:Nat} {g:Nat→Nat} (h:At29 w b o e g) (hu:29≤u) {d:List (Nat × Bool)} {n:Nat} {ex:List Ex} {r:A0} (hrun:Run4 d (st4 e) n ex r) (hsc:inScope n ex=true) (hle:ex.length≤n) (hn:n - ex.length=28)
  (hd:∀ s:Nums,(∀ i,i<28→s i=g i)→Holds s n ex→(∀ i c,(i,c) ∈ d→s i=c.toNat)∧(∀ (β:Places) (m:Nat) (v:Value),r.rep s β m v→v=.bool true)):Law 4 w [.slice (some ⟨b,o,none⟩) 29 u]:=by
 have hlt:b<w.heap.size:=World.block_lt_of_cell? w _ h.first
 refine calls_briefR (F:=fixN 63 1 d []) tab4_ok hrun Try.func4 ntmps4 rfl hsc hle hn (show 1≤63 by decide) (show 1<4095 by decide) g (fun _=>(b,o)) (vals:=[.slice (some ⟨b,o,none⟩) 29 u]) (fun s hs=>args4 hu s) (fun s hs=>mem4 h s hs) (fun r l hl hr=>by cases hr) (fun r _=>hlt) (fun r q _ _ h=>by cases h) ?_ ?_
 ·intro s hs hH
  exact dec4_of (hd s hs hH).1
 ·intro s hs hH st' β' a' w' v hv hm hag hr hbe
  have:=(hd s hs hH).2 β' _ v hv
  subst this
  exact ⟨rfl,hbe⟩
theorem sum4 {g:Nat→Nat} {s:Nums} (hs:∀ i,i<28→s i=g i):ofBytes ((List.range 28).map fun i=>s (0+i))=ofBytes ((List.range 28).map g):=by
 congr 1
 apply List.map_congr_left
 intro i hi
 rw [Nat.zero_add]
 exact hs i (List.mem_range.1 hi)
theorem law4_two {e:Nat} {g:Nat→Nat} (he:e=0∨e=1) (h:At29 w b o e g) (hu:29≤u):Law 4 w [.slice (some ⟨b,o,none⟩) 29 u]:=by
 obtain ⟨X,hX⟩:∃ X,ofBytes ((List.range 28).map g)=X:=⟨_,rfl⟩
 have only:∀ c,c<pq→fi pp c=rhs bb (fi pp X)→c=(rhs bb (fi pp X)).val:=fun c h1 h2=>of_fi h2 (lt_pp h1)
 by_cases hp:X<pq
 ·by_cases hq:isSqN (rhs bb (fi pp X)).val=1
  ·have hrun:Run4 dec4g (st4 e) 92 (ex4g e) (.bl 91):=by
    rcases he with rfl | rfl
    ·exact run4g0
    ·exact run4g1
   refine call4 h hu hrun (by rcases he with rfl | rfl <;> decide +kernel) (by rcases he with rfl | rfl <;> decide +kernel) (by rcases he with rfl | rfl <;> decide +kernel) fun s hs hH=>?_
   obtain ⟨a1,a2,a3,a4,a5,a6,a7,a8,a9,a10,a11⟩:=law4g he ((sum4 hs).trans hX) (fun i hi=>by rw [hs i hi]; exact (h.rest i hi).2) hp (fun c h1 h2=>by rw [only c h1 h2]; exact hq) hH
   refine ⟨fun i c hi=>?_,fun β m v hv=>?_⟩
   ·simp only [dec4g,List.mem_cons,List.not_mem_nil,or_false,Prod.mk.injEq] at hi
    rcases hi with ⟨rfl,rfl⟩|⟨rfl,rfl⟩|⟨rfl,rfl⟩|⟨rfl,rfl⟩|⟨rfl,rfl⟩|⟨rfl,rfl⟩|⟨rfl,rfl⟩|⟨rfl,rfl⟩|⟨rfl,rfl⟩|⟨rfl,rfl⟩ <;> assumption
   ·have hv':v=.bool (s 91 == 1):=hv.1
    rw [hv',a11]
    rfl
  ·have hrun:Run4 dec4q (st4 e) 68 ex4q (.lit (.bool true)):=by
    rcases he with rfl | rfl
    ·exact run4q0
    ·exact run4q1
   refine call4 h hu hrun (by decide +kernel) (by decide +kernel) (by decide +kernel) fun s hs hH=>?_
   obtain ⟨a1,a2,a3,a4,a5,a6⟩:=law4q ((sum4 hs).trans hX) hp (fun c h1 h2=>by rw [only c h1 h2]; exact hq) hH
   refine ⟨fun i c hi=>?_,fun β m v hv=>hv⟩
   simp only [dec4q,List.mem_cons,List.not_mem_nil,or_false,Prod.mk.injEq] at hi
   rcases hi with ⟨rfl,rfl⟩|⟨rfl,rfl⟩|⟨rfl,rfl⟩|⟨rfl,rfl⟩|⟨rfl,rfl⟩|⟨rfl,rfl⟩ <;> assumption
 ·have hrun:Run4 dec4x (st4 e) 39 ex4x (.lit (.bool true)):=by
   rcases he with rfl | rfl
   ·exact run4x0
   ·exact run4x1
  refine call4 h hu hrun (by decide +kernel) (by decide +kernel) (by decide +kernel) fun s hs hH=>?_
  obtain ⟨a1,a2,a3⟩:=law4x ((sum4 hs).trans hX) hp hH
  refine ⟨fun i c hi=>?_,fun β m v hv=>hv⟩
  simp only [dec4x,List.mem_cons,List.not_mem_nil,or_false,Prod.mk.injEq] at hi
  rcases hi with ⟨rfl,rfl⟩|⟨rfl,rfl⟩|⟨rfl,rfl⟩ <;> assumption
theorem law4_first {g:Nat→Nat} (hg:∀ k,k<29→w.cell? ⟨b,o+k,none⟩=some (.int .u8 (g k:Int))∧g k<256) (h2:g 0≠2) (h3:g 0≠3) (hu:29≤u):Law 4 w [.slice (some ⟨b,o,none⟩) 29 u]:=by
 have hlt:b<w.heap.size:=World.block_lt_of_cell? w _ (hg 0 (by decide)).1
 refine calls_briefR (F:=fixN 63 1 dec4n []) tab4_ok run4n Try.func4 ntmps4 rfl (by decide +kernel) (by decide +kernel) (by decide +kernel) (show 1≤63 by decide) (show 1<4095 by decide) g (fun _=>(b,o)) (vals:=[.slice (some ⟨b,o,none⟩) 29 u]) (fun s hs=>args4 hu s) (fun s hs=>⟨show 0<1 by decide,row_nums 29 0 0 fun k hk=>?_,trivial⟩) (fun r l hl hr=>by cases hr) (fun r _=>hlt) (fun r q _ _ h=>by cases h) ?_ ?_
 ·obtain ⟨q1,q2⟩:=hg k hk
  rw [Nat.zero_add,hs k hk]
  exact ⟨q1,q2⟩
 ·intro s hs hH
  obtain ⟨h38,h37,h36,h35,h34,h33,_⟩:=hH
  have e0:s 0=g 0:=hs 0 (by decide)
  have e33:s 33=0:=(show s 33=if s 0=2 then 1 else 0 from h33).trans (if_neg (by rw [e0]; exact h2))
  have e34:s 34=0:=(show s 34=if s 0=3 then 1 else 0 from h34).trans (if_neg (by rw [e0]; exact h3))
  have e35:s 35=1:=(show s 35=if s 0=2 then 0 else 1 from h35).trans (if_neg (by rw [e0]; exact h2))
  have e36:s 36=1:=(show s 36=if s 0=3 then 0 else 1 from h36).trans (if_neg (by rw [e0]; exact h3))
  have e37:s 37=1:=(show s 37=if s 0=2 then 0 else 1 from h37).trans (if_neg (by rw [e0]; exact h2))
  have e38:s 38=1:=(show s 38=if s 0=3 then 0 else 1 from h38).trans (if_neg (by rw [e0]; exact h3))
  refine dec4_of fun i c hi=>?_
  simp only [dec4n,List.mem_cons,List.not_mem_nil,or_false,Prod.mk.injEq] at hi
  rcases hi with ⟨rfl,rfl⟩|⟨rfl,rfl⟩|⟨rfl,rfl⟩|⟨rfl,rfl⟩|⟨rfl,rfl⟩|⟨rfl,rfl⟩ <;> assumption
 ·intro s hs hH st' β' a' w' v hv hm hag hr hbe
  have hv':v=.bool true:=hv
  subst hv'
  exact ⟨rfl,hbe⟩
end
theorem law4_len {w:World} {v:Value} {b o n u d f:Nat} (h:Sl w v b o n u d f) (hn:n≠29):Law 4 w [v]:=by
 have hs29:sgn 2147483647=2147483647:=by decide
 have hsn:sgn n=n:=by unfold sgn; rw [if_pos h.n63]
 let s0:Nums:=fun i=>if i=0 then n else if i=1 then u else d
 by_cases hl:2147483647<n
 ·refine calls_briefR (F:=fixN 63 1 [(3,true)] []) tab4_ok run4l Try.func4 ntmps4 rfl (by decide +kernel) (by decide +kernel) (by decide +kernel) (show 1≤63 by decide) (show 1<4095 by decide) s0 (fun _=>(b,o))
   (vals:=[v]) (fun s hs=>⟨h.rep rfl (show 0<1 by decide) (hs 0 (by decide)) (hs 1 (by decide)) (hs 2 (by decide)),trivial⟩) (fun s hs=>trivial) (fun r l hl hr=>by cases hr) (fun r _=>h.lt) (fun r q _ _ h=>by cases h) ?_ ?_
  ·intro s hs hH
   have e:s 3=if sgn 2147483647<sgn (s 0) then 1 else 0:=hH.1
   rw [hs 0 (by decide),show s0 0=n from rfl,hs29,hsn,if_pos (by omega)] at e
   refine dec4_of fun i c hi=>?_
   simp only [List.mem_cons,List.not_mem_nil,or_false,Prod.mk.injEq] at hi
   obtain ⟨rfl,rfl⟩:=hi
   exact e
  ·intro s hs hH st' β' a' w' v' hv' hm hag hr hbe
   have hv2:v'=.bool true:=hv'
   exact ⟨by rw [hv2],hbe⟩
 ·refine calls_briefR (F:=fixN 63 1 [(3,false),(4,true)] []) tab4_ok run4m Try.func4 ntmps4 rfl (by decide +kernel) (by decide +kernel) (by decide +kernel) (show 1≤63 by decide) (show 1<4095 by decide) s0 (fun _=>(b,o))
   (vals:=[v]) (fun s hs=>⟨h.rep rfl (show 0<1 by decide) (hs 0 (by decide)) (hs 1 (by decide)) (hs 2 (by decide)),trivial⟩) (fun s hs=>trivial) (fun r l hl hr=>by cases hr) (fun r _=>h.lt) (fun r q _ _ h=>by cases h) ?_ ?_
  ·intro s hs hH
   have e:s 3=if sgn 2147483647<sgn (s 0) then 1 else 0:=hH.2.1
   have e4:s 4=if s 0=29 then 0 else 1:=hH.1
   rw [hs 0 (by decide),show s0 0=n from rfl,hs29,hsn,if_neg (by omega)] at e
   rw [hs 0 (by decide),show s0 0=n from rfl,if_neg hn] at e4
   refine dec4_of fun i c hi=>?_
   simp only [List.mem_cons,List.not_mem_nil,or_false,Prod.mk.injEq] at hi
   rcases hi with ⟨rfl,rfl⟩|⟨rfl,rfl⟩
   ·exact e
   ·exact e4
  ·intro s hs hH st' β' a' w' v' hv' hm hag hr hbe
   have hv2:v'=.bool true:=hv'
   exact ⟨by rw [hv2],hbe⟩
theorem law4_all {w:World} {v:Value} {b o n u d f:Nat} (h:Sl w v b o n u d f):Law 4 w [v]:=by
 by_cases hn:n=29
 ·subst hn
  have hd:d≠1:=fun e=>by have:=h.nil e; cases this
  have hv:=h.eq
  rw [if_neg hd] at hv
  subst hv
  obtain ⟨l,h1,h2,h3,_⟩:=h.flag
  have hg:∀ k,k<29→w.cell? ⟨b,o+k,none⟩=some (.int .u8 (l.getD k 0:Int))∧l.getD k 0<256:=fun k hk=>by
   have hl:l[k]?=some (l[k]'(by omega)):=List.getElem?_eq_getElem (by omega)
   have e:l.getD k 0=l[k]'(by omega):=by rw [List.getD_eq_getElem?_getD,hl]; rfl
   rw [e]
   exact ⟨h3 k _ hl,h2 _ (List.getElem_mem _)⟩
  have two:∀ e,(e=0∨e=1)→l.getD 0 0=2+e→Law 4 w [.slice (some ⟨b,o,none⟩) 29 u]:=fun e he h0=>by
   refine law4_two he (g:=fun k=>l.getD (1+k) 0) ⟨?_,fun k hk=>hg (1+k) (by omega)⟩ h.le
   have:=(hg 0 (by decide)).1
   rw [h0] at this
   exact this
  by_cases h2':l.getD 0 0=2
  ·exact two 0 (.inl rfl) h2'
  ·by_cases h3':l.getD 0 0=3
   ·exact two 1 (.inr rfl) h3'
   ·exact law4_first (g:=fun k=>l.getD k 0) hg h2' h3' h.le
 ·exact law4_len h hn
end P224
