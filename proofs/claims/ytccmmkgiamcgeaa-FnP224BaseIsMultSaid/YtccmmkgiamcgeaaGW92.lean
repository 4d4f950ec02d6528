/- ScalarBaseMult: the start. -/
import Derived.Test.YtccmmkgiamcgeaaGW84
import Derived.Test.YtccmmkgiamcgeaaGV13
import Derived.Test.YtccmmkgiamcgeaaGV6
import Derived.Test.YtccmmkgiamcgeaaGZ6
import Derived.Test.YtccmmkgiamcgeaaGV16
set_option linter.all false
namespace P224
open Go Go.RowKit Go.Proofs
set_option maxRecDepth 100000
set_option linter.unusedVariables false
def fixP:Fix:={ nt:=60,nold:=2,wr:=fun _=>false,sep:=fun _ _=>false,dec:=fun _=>none }
def tmP:List (Nat × AV):=[(0,.one (.ptr 1 0)),(1,.one (.sl 0 0 28))]
def wr92 (r:Nat):Bool:=decide (2≤r) && decide (r≤4)
def fix92:Fix:={ nt:=60,nold:=6,wr:=wr92,sep:=fun a b=>(wr92 a || wr92 b) && decide (a≠b) && decide (1≤a) && decide (a≤4) && decide (1≤b) && decide (b≤4),dec:=fun _=>none }
def tm92:List (Nat × AV):=[(0,.one (.ptr 1 0)),(1,.one (.sl 0 0 28)),(6,.one (.ptr 5 0))]
def mem92:List (Nat × List A0):=[(1,ptCells 1),(2,limbs 0),(3,limbs 1),(4,limbs 2)]
end P224
/- ScalarBaseMult: the start, the table's call. -/
namespace P224
open Go Go.RowKit Go.Proofs
set_option maxRecDepth 100000
set_option linter.unusedVariables false
def peekSt (x:Option St) (ts:List Nat):Option (Nat × List Ex × Bool × List (Option AV)):=x.map fun st=>(st.nx,st.exs,st.out.isEmpty,ts.map st.tm.get)
theorem peekSt_spec {x:Option St} {ts:List Nat} {n:Nat} {e:List Ex} {l:List (Option AV)} (h:peekSt x ts=some (n,e,true,l)):∃ st,x=some st∧st.nx=n∧st.exs=e∧st.out=[]∧ts.map st.tm.get=l:=by
 cases x with
 | none=>cases h
 | some st =>
  simp only [peekSt,Option.map_some,Option.some.injEq,Prod.mk.injEq] at h
  obtain ⟨h1,h2,h3,h4⟩:=h
  exact ⟨st,rfl,h1,h2,List.isEmpty_iff.1 h3,h4⟩
def cOps:Code→Array Oper
 | .region _ ops _=>ops
 | _=>#[]
def cId:Code→Nat
 | .region id _ _=>id
 | _=>0
def dftOp : Oper := ⟨none, .ready 0, 0, "", #[], none⟩
noncomputable def ops103:Array Oper:=cOps bT
noncomputable def oA:Oper:=ops103.getD 0 dftOp
noncomputable def oB:Oper:=ops103.getD 1 dftOp
noncomputable def oC:Oper:=ops103.getD 2 dftOp
theorem shape103:bT=.region (cId bT) ops103 false:=by kernel_rfl
theorem list103:ops103.toList=[oA,oB,oC]:=by kernel_rfl
noncomputable def cB:Call:=match oB.op with
 | .call c=>c
 | _=>{ callee:=.value (.const .nilIface),args:=#[],argTypes:=#[] }
theorem oB_call:oB.op=.call cB:=by kernel_rfl
theorem cB_callee:cB.callee=.value (.func 79):=by kernel_rfl
noncomputable def xB:Operand:=cB.args.toList.headD (.const .nilIface)
theorem cB_args:cB.args.toList=[xB]:=by kernel_rfl
theorem ntmps51:Try.f51.ntmps=60:=by kernel_rfl
theorem body51:Try.f51.body=some c51:=by kernel_rfl
def stP:St:=startSt tmPa [] 0 2
where tmPa:List AV:=[.one (.ptr 1 0),.one (.sl 0 0 28)]
theorem runQ:peekL (tabX true pointPrims xb6) fixP 3000 [b0,b1] stP [0,1] []=some ⟨.normal,0,[],tmP.map fun e=>some e.2,[]⟩:=by kernel_rfl
theorem wantsA:wants fixP (headSt tmP [] 0 2) ops103 oA=some true:=by kernel_rfl
theorem runA103:peekSt (step (tabX true pointPrims xb6) fixP (fun _=>true) ops103 (headSt tmP [] 0 2) oA) [0,1]=some (0,[],true,tmP.map fun e=>some e.2):=by kernel_rfl
theorem oB_guard:oB.guard=none:=by kernel_rfl
def fixP3:Fix:={ nt:=60,nold:=3,wr:=fun _=>false,sep:=fun _ _=>false,dec:=fun _=>none }
theorem runC103:peekSt ((putTm fixP3 (headSt tmP [] 0 3) oB.dst (.one (.ptr 2 0))).bind fun st=>steps (tabX true pointPrims xb6) fixP3 ops103 [oC] st) [0,1,6]=some (0,[],true,[some (.one (.ptr 1 0)),some (.one (.sl 0 0 28)),some (.one (.ptr 2 0))]):=by kernel_rfl
def outR (e:Nat × Nat × A0):Bool:=wr92 e.1
def exR:List Ex:=[.fcst 0,.fcst 1,.fcst 0,.fcst 0,.fcst 0,.fcst 1,.fcst 0,.fcst 0]
def peekLo (T:Tab) (F:Fix) (f:Nat) (l:List Code) (st:St) (chk:Nat × Nat × A0→Bool) (ts rs:List Nat):Option Pk :=
 match runL T F f l st with
 | some (o,st')=>bif st'.out.all chk then some ⟨o,st'.nx,st'.exs,ts.map st'.tm.get,rs.map fun r=>lookup r st'.mem⟩ else none
 | none=>none
theorem peekLo_spec {T:Tab} {F:Fix} {f:Nat} {l:List Code} {st:St} {chk:Nat × Nat × A0→Bool} {ts rs:List Nat} {p:Pk} (h:peekLo T F f l st chk ts rs=some p) :
  ∃ st',runL T F f l st=some (p.o,st')∧st'.out.all chk=true∧st'.nx=p.nx∧st'.exs=p.exs∧ts.map st'.tm.get=p.tms∧(rs.map fun r=>lookup r st'.mem)=p.mems:=by
 unfold peekLo at h
 split at h
 ·rename_i o st' hr
  obtain ⟨h1,h⟩:=bif_some h
  cases h
  exact ⟨st',hr,h1,rfl,rfl,rfl,rfl⟩
 ·cases h
theorem runR:peekLo (tabX true pointPrims xb6) fix92 3000 [b4,b5,b6,b7] (headSt tm92 mem92 3 6) outR [0,6,7,8,22,23,24] [1,2,3,4,6,7,8,9] =
  some ⟨.normal,11,exR,[some (.one (.ptr 1 0)),some (.one (.ptr 5 0)),some (.one (.ptr 9 0)),some (.one (.lit (.int .i64 ((55:Int) - 2*((0:Nat):Int))))),some (.one (.sl 0 0 28)),some (.one (.lit (.int .i64 28))),some (.one (.lit (.int .i64 ((0:Nat):Int))))],
   [some (ptCells 1),some (limbs 7),some (limbs 9),some (limbs 10),some (limbs 3),some (limbs 5),some (limbs 6),some [.ptr 6 0,.ptr 7 0,.ptr 8 0]]⟩:=by kernel_rfl
structure TmS (a:Act) (P:PtR) (b3 o3:Nat):Prop where
 size:a.tmps.size=60
 defs:a.defers=[]
 t0:a.tmps.getD 0 undef=ptrTo P.b P.o
 t1:∃ c,28≤c∧a.tmps.getD 1 undef=.slice (some ⟨b3,o3,none⟩) 28 c
def plP (b3 o3:Nat) (P:PtR) (bt:Nat):Places:=fun r=>if r=0 then (b3,o3) else if r=1 then (P.b,P.o) else (bt,0)
theorem relP {w:World} {P:PtR} {b3 o3:Nat} {a:Act} (ht:TmS a P b3 o3) (h3:b3<w.heap.size) (hP:P.b<w.heap.size) (s:Nums):Rel fixP s (plP b3 o3 P 0) w (headSt tmP [] 0 2) a w:=by
 refine rel_here ht.size ht.defs (fun e he=>?_) trivial (fun r l hl hw j hj=>by cases hl) (fun r hr=>?_) (fun r q _ _ hs=>by cases hs) (fun i b hb=>by cases hb) fun _=>rfl
 ·simp only [tmP,List.mem_cons,List.not_mem_nil,or_false] at he
  rcases he with rfl | rfl
  ·exact ⟨ht.t0,show 1<2 by decide⟩
  ·obtain ⟨c,hc,hv⟩:=ht.t1
   exact ⟨c,hc,hv,show 0<2 by decide⟩
 ·have:r<2:=hr
  rcases (by omega:r=0∨r=1) with rfl | rfl
  ·exact h3
  ·exact hP
theorem relP3 {w:World} {P:PtR} {b3 o3 bt:Nat} {a:Act} (ht:TmS a P b3 o3) (h3:b3<w.heap.size) (hP:P.b<w.heap.size) (hb:bt<w.heap.size) (s:Nums):Rel fixP3 s (plP b3 o3 P bt) w (headSt tmP [] 0 3) a w:=by
 refine rel_here ht.size ht.defs (fun e he=>?_) trivial (fun r l hl hw j hj=>by cases hl) (fun r hr=>?_) (fun r q _ _ hs=>by cases hs) (fun i b hb=>by cases hb) fun _=>rfl
 ·simp only [tmP,List.mem_cons,List.not_mem_nil,or_false] at he
  rcases he with rfl | rfl
  ·exact ⟨ht.t0,show 1<3 by decide⟩
  ·obtain ⟨c,hc,hv⟩:=ht.t1
   exact ⟨c,hc,hv,show 0<3 by decide⟩
 ·have:r<3:=hr
  rcases (by omega:r=0∨r=1∨r=2) with rfl | rfl | rfl
  ·exact h3
  ·exact hP
  ·exact hb
theorem tmS_of {F:Fix} {s:Nums} {β:Places} {w0 w:World} {st:St} {a:Act} (hr:Rel F s β w0 st a w) (hF:F.nt=60) {P:PtR} {b3 o3:Nat} (e0:β 0=(b3,o3)) (e1:β 1=(P.b,P.o)) (g0:st.tm.get 0=some (.one (.ptr 1 0))) (g1:st.tm.get 1=some (.one (.sl 0 0 28))):TmS a P b3 o3:=by
 refine ⟨hr.size.trans hF,hr.defs,?_,?_⟩
 ·have:=(hr.tm 0 _ g0).1
  rw [at_,e1] at this
  exact this
 ·obtain ⟨c,hc,hcv,_⟩:=hr.tm 1 _ g1
  rw [at_,e0] at hcv
  exact ⟨c,hc,hcv⟩
theorem call79 {w:World} {P:PtR} {b3 o3:Nat} {a:Act} (ht:TmS a P b3 o3) (h3:b3<w.heap.size) (hP:P.b<w.heap.size) {Q:Exit→Act→World→Prop}
  (hn:∀ a' w1 w' bt Pb,Below w.heap.size w w1→Inv79 w1 w' bt Pb 56→TmS a' P b3 o3→a'.tmps.getD 6 undef=ptrTo bt 0→Q .normal a' w'):bT.wp Try.prog Q a w:=by
 have hT:(tabX true pointPrims xb6).Ok Try.prog:=tabX_ok pointPrims_ok xb6_ok
 rw [shape103]
 refine wp_region_list ?_
 rw [list103,wpList]
 have h0:=relP ht h3 hP fun _=>0
 obtain ⟨stA,hA,n1,n2,n3,n4⟩:=peekSt_spec runA103
 rw [wants_rep h0 wantsA,if_pos rfl]
 refine .inl (step_wp hT h0 hA wantsA (by rw [n1,n2]; trivial) fun β1 a1 w1 hag hr1=>?_)
 have hb1:=hr1.below
 rw [n3] at hb1
 injection n4 with g0 n4
 injection n4 with g1 _
 have ht1:TmS a1 P b3 o3:=tmS_of hr1 rfl (hag 0 (show 0<2 by decide)) (hag 1 (show 1<2 by decide)) g0 g1
 rw [wpList]
 have hwB:Region.wanted oB (yielded ops103 a1.tmps)=true:=by
  unfold Region.wanted
  rw [oB_guard]
 rw [hwB,if_pos rfl]
 refine .inl (call_wp (s:=fun _=>0) oB_call cB_callee (R:=fun r w'=>∃ bt P,r=ptrTo bt 0∧Inv79 w1 w' bt P 56) (by rw [cB_args]; exact table79 w1 _) fun v w2 hR=>?_)
 obtain ⟨bt,Pb,rfl,hI⟩:=hR
 obtain ⟨stC,hC,k1,k2,k3,k4⟩:=peekSt_spec runC103
 obtain ⟨stB,hB,hC⟩:=Option.bind_eq_some_iff.1 hC
 have hlt:bt<w2.heap.size:=by
  obtain ⟨⟨v,hv⟩,_⟩:=hI.cells 0 (by decide)
  exact World.block_lt_of_cell? w2 _ hv
 have s1:w.heap.size≤w1.heap.size:=hb1.size
 have s2:w1.heap.size≤w2.heap.size:=hI.below.size
 have h2:=(relP3 (bt:=bt) (w:=w2) ht1 (by omega) (by omega) hlt fun _=>0).put hB (x:=ptrTo bt 0) ⟨rfl,show 2<3 by decide⟩
 refine steps_wp hT h2 hC (by rw [k1,k2]; trivial) fun β3 a3 w3 hag3 hr3=>?_
 have hnr:stB.nr=3:=(put_st hB).2.2.1
 have hb3:=hr3.below
 rw [k3] at hb3
 injection k4 with g0' k4
 injection k4 with g1' k4
 injection k4 with g6' _
 have e0:β3 0=plP b3 o3 P bt 0:=hag3 0 (by rw [hnr]; decide)
 have e1:β3 1=plP b3 o3 P bt 1:=hag3 1 (by rw [hnr]; decide)
 have e2:β3 2=plP b3 o3 P bt 2:=hag3 2 (by rw [hnr]; decide)
 refine hn a3 w1 w3 bt Pb hb1 (hI.mono hb3) (tmS_of hr3 rfl e0 e1 g0' g1') ?_
 have:=(hr3.tm 6 _ g6').1
 rw [at_,e2] at this
 exact this
end P224
/- ScalarBaseMult: its contract. -/
namespace P224
open Go Go.RowKit Go.Proofs
set_option maxRecDepth 100000
set_option linter.unusedVariables false
structure Pre51 (V w:World) (P:PtR) (b3 o3:Nat) (ks:List Nat):Prop where
 below:Below V.heap.size V w
 pc:P.cells w
 pr:P.room w
 pa:P.apart
 val:∃ X Y Z,P.val w X Y Z
 new:V.heap.size≤P.bx∧V.heap.size≤P.b2∧V.heap.size≤P.bz
 len:ks.length=28
 sc:∀ (i:Nat) x,ks[i]?=some x→w.cell? ⟨b3,o3+i,none⟩=some (.int .u8 (x:Int))∧x<256
 s3:b3≠P.bx∧b3≠P.b2∧b3≠P.bz
theorem Pre51.mono {V w w':World} {P:PtR} {b3 o3:Nat} {ks:List Nat} (h:Pre51 V w P b3 o3 ks) (hb:Below w.heap.size w w'):Pre51 V w' P b3 o3 ks:=by
 have kp:∀ {p:Addr} {v:Value},w.cell? p=some v→w'.cell? p=some v:=fun hv=>by
  rw [hb.cell (World.block_lt_of_cell? w _ hv)]
  exact hv
 have rm:∀ {c o:Nat},c<w.heap.size→RoomAt w c o→RoomAt w' c o:=fun {c o} hp hm j hj=>by
  rw [hb.cell (p:=⟨c,o+j,none⟩) hp,hb.frozen (p:=⟨c,o+j,none⟩) hp]
  exact hm j hj
 obtain ⟨⟨y1,y2,y3⟩,n1,n2,n3⟩:=h.pr
 obtain ⟨X,Y,Z,v1,v2,v3,l⟩:=h.val
 exact {
     below:=h.below.trans (hb.mono h.below.size),pc:=⟨kp h.pc.1,kp h.pc.2.1,kp h.pc.2.2⟩,pr:=⟨⟨rm n1 y1,rm n2 y2,rm n3 y3⟩,Nat.lt_of_lt_of_le n1 hb.size,Nat.lt_of_lt_of_le n2 hb.size,Nat.lt_of_lt_of_le n3 hb.size⟩
     pa:=h.pa,val:=⟨X,Y,Z,fun k hk=>kp (v1 k hk),fun k hk=>kp (v2 k hk),fun k hk=>kp (v3 k hk),l⟩,new:=h.new,len:=h.len,sc:=fun i x hi=>⟨kp (h.sc i x hi).1,(h.sc i x hi).2⟩,s3:=h.s3 }
def pl92 (b3 o3 bt:Nat) (P:PtR):Places:=fun r=>if r=0 then (b3,o3) else if r<5 then ptPlace P (r - 1) else (bt,0)
theorem wr92_cases {r:Nat} (h:wr92 r=true):r=2∨r=3∨r=4:=by
 simp only [wr92,Bool.and_eq_true,decide_eq_true_eq] at h
 omega
theorem rel92 {V w:World} {P:PtR} {b3 o3 bt:Nat} {ks:List Nat} (h:Pre51 V w P b3 o3 ks) (hbt:bt<w.heap.size) {a:Act} (ht:TmS a P b3 o3) (h6:a.tmps.getD 6 undef=ptrTo bt 0) {X Y Z:Nat} (hv:P.val w X Y Z) {s:Nums} (s0:s 0=X) (s1:s 1=Y) (s2:s 2=Z) :
  Rel fix92 s (pl92 b3 o3 bt P) w (headSt tm92 mem92 3 6) a w:=by
 obtain ⟨vx,vy,vz,lx,ly,lz⟩:=hv
 obtain ⟨⟨m1,m2,m3⟩,n1,n2,n3⟩:=h.pr
 obtain ⟨x,hx⟩:∃ x,ks[0]?=some x:=⟨ks[0]'(by rw [h.len]; decide),List.getElem?_eq_getElem _⟩
 obtain ⟨q1,q2,q3,q4,q5,q6⟩:=h.pa
 refine rel_here ht.size ht.defs (fun e he=>?_) ⟨show 1<6 by decide,pt_row (p:=P) rfl rfl rfl rfl h.pc (by decide),show 2<6 by decide,limb_row rfl vx s0 lx,show 3<6 by decide,limb_row rfl vy s1 ly,show 4<6 by decide,limb_row rfl vz s2 lz,trivial⟩ (fun r l hl hw j hj=>?_) (fun r hr=>?_) (fun r q _ _ hs=>?_) (fun i b hb=>by cases hb) fun _=>rfl
 ·simp only [tm92,List.mem_cons,List.not_mem_nil,or_false] at he
  rcases he with rfl | rfl | rfl
  ·exact ⟨ht.t0,show 1<6 by decide⟩
  ·obtain ⟨c,hc,hv⟩:=ht.t1
   exact ⟨c,hc,hv,show 0<6 by decide⟩
  ·exact ⟨h6,show 5<6 by decide⟩
 ·rcases wr92_cases hw with rfl | rfl | rfl
  ·cases (show some (limbs 0)=some l from hl); exact (m1 j hj).2
  ·cases (show some (limbs 1)=some l from hl); exact (m2 j hj).2
  ·cases (show some (limbs 2)=some l from hl); exact (m3 j hj).2
 ·have:r<6:=hr
  rcases (by omega:r=0∨r=1∨r=2∨r=3∨r=4∨r=5) with rfl | rfl | rfl | rfl | rfl | rfl
  ·exact World.block_lt_of_cell? w _ (h.sc 0 x hx).1
  ·exact World.block_lt_of_cell? w _ h.pc.1
  ·exact n1
  ·exact n2
  ·exact n3
  ·exact hbt
 ·have hs':((wr92 r || wr92 q) && decide (r≠q) && decide (1≤r) && decide (r≤4) && decide (1≤q) && decide (q≤4))=true:=hs
  simp only [Bool.and_eq_true,decide_eq_true_eq] at hs'
  obtain ⟨⟨⟨⟨⟨_,hne⟩,r1⟩,r4⟩,k1⟩,k4⟩:=hs'
  rcases (by omega:r=1∨r=2∨r=3∨r=4) with rfl | rfl | rfl | rfl <;> rcases (by omega:q=1∨q=2∨q=3∨q=4) with rfl | rfl | rfl | rfl <;>
   first
   | exact absurd rfl hne
   | exact q1 | exact q1.symm | exact q2 | exact q2.symm | exact q3 | exact q3.symm | exact q4 | exact q4.symm | exact q5 | exact q5.symm | exact q6 | exact q6.symm
theorem tail51 {V w1 w:World} {P Pb:PtR} {b3 o3 bt:Nat} {ks:List Nat} (h:Pre51 V w P b3 o3 ks) (hI:Inv79 w1 w bt Pb 56) (hP1:P.b<w1.heap.size∧P.bx<w1.heap.size∧P.b2<w1.heap.size∧P.bz<w1.heap.size∧b3<w1.heap.size) {a:Act} (ht:TmS a P b3 o3) (h6:a.tmps.getD 6 undef=ptrTo bt 0)
  {R:Value→World→Prop} (hR:∀ w',Out51 V w' P (nsmul (ofBytes ks) gg)→R (.tuple #[ptrTo P.b P.o,.nilIface]) w') :
  (Code.seq b4 (.seq b5 (.seq b6 (.seq (.seq b7 (.block 0 (.loop bK))) bZ)))).wp Try.prog (bodyPost Try.prog Try.f51 fun e w''=>∃ r,e=.returned r∧R r w'') a w:=by
 have hlt:bt<w.heap.size:=by
  obtain ⟨⟨v,hv⟩,_⟩:=hI.cells 0 (by decide)
  exact World.block_lt_of_cell? w _ hv
 obtain ⟨X,Y,Z,hv⟩:=h.val
 obtain ⟨s,hH,hs⟩:=exists_nums (fun i=>if i=0 then X else if i=1 then Y else Z) (l:=exR) (n:=11) (by decide +kernel) (by decide +kernel)
 have hr:=rel92 h hlt ht h6 hv (hs 0 (by decide +kernel)) (hs 1 (by decide +kernel)) (hs 2 (by decide +kernel))
 obtain ⟨st',hst,hchk,hnx,hexs,htm,hmm⟩:=peekLo_spec runR
 have reach:=runL_reach (l:=[b4,b5,b6,b7]) (tabX_ok pointPrims_ok xb6_ok) hr hst (by rw [hnx,hexs]; exact hH)
  (K:=Exit.then ((Code.block 0 (.loop bK)).wp Try.prog (Exit.then (bZ.wp Try.prog (bodyPost Try.prog Try.f51 fun e w''=>∃ r,e=.returned r∧R r w'')) (bodyPost Try.prog Try.f51 fun e w''=>∃ r,e=.returned r∧R r w'')))
   (Exit.then (bZ.wp Try.prog (bodyPost Try.prog Try.f51 fun e w''=>∃ r,e=.returned r∧R r w'')) (bodyPost Try.prog Try.f51 fun e w''=>∃ r,e=.returned r∧R r w'')))
  fun β a' w' hag hr'=>by
   show (Code.block 0 (.loop bK)).wp _ _ a' w'
   obtain ⟨h10,h9,h8,h7,_⟩:=hH
   have q7:s 7=0:=(show s 7=0 % pq from h7).trans (Nat.zero_mod _)
   have q9:s 9=1:=(show s 9=1 % pq from h9).trans mod_one_pq
   have q10:s 10=0:=(show s 10=0 % pq from h10).trans (Nat.zero_mod _)
   injection htm with g0 htm
   injection htm with g6 htm
   injection htm with g7 htm
   injection htm with g8 htm
   injection htm with g22 htm
   injection htm with g23 htm
   injection htm with g24 htm
   injection hmm with m1 hmm
   injection hmm with m2 hmm
   injection hmm with m3 hmm
   injection hmm with m4 hmm
   injection hmm with m6 hmm
   injection hmm with m7 hmm
   injection hmm with m8 hmm
   injection hmm with m9 hmm
   have b0':β 0=pl92 b3 o3 bt P 0:=hag 0 (show 0<6 by decide)
   have b1':β 1=pl92 b3 o3 bt P 1:=hag 1 (show 1<6 by decide)
   have b2':β 2=pl92 b3 o3 bt P 2:=hag 2 (show 2<6 by decide)
   have b3':β 3=pl92 b3 o3 bt P 3:=hag 3 (show 3<6 by decide)
   have b4':β 4=pl92 b3 o3 bt P 4:=hag 4 (show 4<6 by decide)
   have b5':β 5=pl92 b3 o3 bt P 5:=hag 5 (show 5<6 by decide)
   have nn:∀ {r l},lookup r st'.mem=some l→6≤r→w.heap.size≤(β r).1∧(β r).1<w'.heap.size:=fun {r l} hl hge=>by
    obtain ⟨f1,f2,_⟩:=hr'.fresh r hge (hr'.mem _ _ hl).1
    exact ⟨f1,f2⟩
   obtain ⟨f6,d6⟩:=nn m6 (by decide)
   obtain ⟨f7,d7⟩:=nn m7 (by decide)
   obtain ⟨f8,d8⟩:=nn m8 (by decide)
   obtain ⟨f9,d9⟩:=nn m9 (by decide)
   have dd:∀ {r q l l'},lookup r st'.mem=some l→lookup q st'.mem=some l'→6≤r→6≤q→r≠q→(β r).1≠(β q).1:=fun hl hl' h1 h2 hne=>hr'.dist _ _ h1 h2 (hr'.mem _ _ hl).1 (hr'.mem _ _ hl').1 hne
   have hbelow:=hr'.below
   have blk:∀ e ∈ st'.out,(β e.1).1=P.bx∨(β e.1).1=P.b2∨(β e.1).1=P.bz:=fun e he=>by
    have hw:wr92 e.1=true:=List.all_eq_true.1 hchk e he
    rcases wr92_cases hw with g | g | g
    ·rw [g,b2']; exact .inl rfl
    ·rw [g,b3']; exact .inr (.inl rfl)
    ·rw [g,b4']; exact .inr (.inr rfl)
   have kp:∀ {p:Addr} {v:Value},w.cell? p=some v→p.block≠P.bx→p.block≠P.b2→p.block≠P.bz→w'.cell? p=some v:=fun {p v} hv e1 e2 e3=>by
    rw [hbelow.cell (World.block_lt_of_cell? w _ hv),applyOut_cell fun e he hE=>?_]
    ·exact hv
    ·have hEb:(β e.1).1=p.block:=by rw [← hE]; rfl
     rcases blk e he with g | g | g
     ·exact e1 (hEb.symm.trans g)
     ·exact e2 (hEb.symm.trans g)
     ·exact e3 (hEb.symm.trans g)
   have rm:∀ {c o:Nat},c<w.heap.size→RoomAt w c o→RoomAt w' c o:=fun {c o} hp hm j hj=>by
    refine ⟨?_,?_⟩
    ·rw [hbelow.cell (p:=⟨c,o+j,none⟩) hp]
     exact applyOut_some (hm j hj).1
    ·rw [hbelow.frozen (p:=⟨c,o+j,none⟩) hp,applyOut_frozen]
     exact (hm j hj).2
   have room:∀ {r i:Nat},6≤r→lookup r st'.mem=some (limbs i)→RoomAt w' (β r).1 (β r).2:=fun {r i} hge hl k hk=>⟨⟨_,(limbs_el hr' hl).1 k hk⟩,hr'.frz r _ hl (.inl hge) k hk⟩
   obtain ⟨⟨y1,y2,y3⟩,n1,n2,n3⟩:=h.pr
   have hsz:=hr'.size_le
   have hV:V.heap.size≤w.heap.size:=h.below.size
   have hlP:P.b<w.heap.size:=World.block_lt_of_cell? w _ h.pc.1
   obtain ⟨z1,z2,z3,z4,z5⟩:=hP1
   obtain ⟨x2,l2⟩:=limbs_el hr' m2
   obtain ⟨x3,l3⟩:=limbs_el hr' m3
   obtain ⟨x4,l4⟩:=limbs_el hr' m4
   obtain ⟨x6,l6⟩:=limbs_el hr' m6
   obtain ⟨x7,l7⟩:=limbs_el hr' m7
   obtain ⟨x8,l8⟩:=limbs_el hr' m8
   rw [b2'] at x2
   rw [b3'] at x3
   rw [b4'] at x4
   obtain ⟨c1,_⟩:=ptr_cell hr' m1 (j:=0) (q:=2) rfl
   obtain ⟨c2,_⟩:=ptr_cell hr' m1 (j:=1) (q:=3) rfl
   obtain ⟨c3,_⟩:=ptr_cell hr' m1 (j:=2) (q:=4) rfl
   rw [at_,b1',b2'] at c1
   rw [at_,b1',b3'] at c2
   rw [at_,b1',b4'] at c3
   have nb:∀ b,w1.heap.size≤b→b≠P.bx∧b≠P.b2∧b≠P.bz:=fun b hb=>⟨by omega,by omega,by omega⟩
   have ns:∀ b,w1.heap.size≤b→b<w.heap.size→¬ Six P ⟨(β 9).1,(β 9).2,(β 6).1,(β 6).2,(β 7).1,(β 7).2,(β 8).1,(β 8).2⟩ b:=fun b hb hb' hs=>by
    obtain ⟨e1,e2,e3⟩:=nb b hb
    rcases hs with e | e | e | e | e | e
    ·exact e1 e
    ·exact e2 e
    ·exact e3 e
    ·have:b=(β 6).1:=e
     omega
    ·have:b=(β 7).1:=e
     omega
    ·have:b=(β 8).1:=e
     omega
   refine from_head (bt:=bt) (b3:=b3) (o3:=o3) (T:=⟨(β 9).1,(β 9).2,(β 6).1,(β 6).2,(β 7).1,(β 7).2,(β 8).1,(β 8).2⟩) ?_ ⟨hr'.size,hr'.defs,?_,?_,(hr'.tm 7 _ g7).1,hr'.tm 8 _ g8,?_,hr'.tm 23 _ g23,hr'.tm 24 _ g24⟩ hR
   ·refine {
         below:=?_,pc:=⟨c1,c2,c3⟩,tc:=⟨(ptr_cell hr' m9 (j:=0) rfl).1,(ptr_cell hr' m9 (j:=1) rfl).1,(ptr_cell hr' m9 (j:=2) rfl).1⟩,pr:=⟨⟨rm n1 y1,rm n2 y2,rm n3 y3⟩,Nat.lt_of_lt_of_le n1 hsz,Nat.lt_of_lt_of_le n2 hsz,Nat.lt_of_lt_of_le n3 hsz⟩
         tr:=⟨⟨room (by decide) m6,room (by decide) m7,room (by decide) m8⟩,d6,d7,d8⟩,pa:=h.pa,ta:=⟨dd m9 m6 (by decide) (by decide) (by decide),dd m9 m7 (by decide) (by decide) (by decide),dd m9 m8 (by decide) (by decide) (by decide),dd m6 m7 (by decide) (by decide) (by decide),dd m6 m8 (by decide) (by decide) (by decide),dd m7 m8 (by decide) (by decide) (by decide)⟩
         cross:=?_,new:=fun b hb=>?_,val:=⟨_,_,_,⟨x2,x3,x4,l2,l3,l4⟩,?_⟩,tval:=⟨_,_,_,x6,x7,x8,l6,l7,l8⟩,rows:=fun i hi j hj=>?_,btoff:=ns bt hI.bt0 hlt,len:=h.len,sc:=fun i x hi=>?_,soff:=fun hs=>?_ }
    ·refine (applyOut_below (s:=s) (β:=β) h.below fun e he=>?_).trans (hbelow.mono hV)
     rcases blk e he with g | g | g
     ·rw [g]; exact h.new.1
     ·rw [g]; exact h.new.2.1
     ·rw [g]; exact h.new.2.2
    ·refine ⟨⟨?_,?_,?_⟩,⟨?_,?_,?_,?_⟩,⟨?_,?_,?_,?_⟩,⟨?_,?_,?_,?_⟩⟩ <;> (simp only; omega)
    ·obtain ⟨v1,v2,v3⟩:=h.new
     rcases hb with e | e | e | e | e | e <;> first | omega | (simp only at e; omega)
    ·rw [q7,q9,q10,List.take_zero,show ofBytes ([]:List Nat)=0 from rfl,Nat.zero_mul,nsmul_zero]
     exact rep_z0
    ·obtain ⟨q,hq,hQ⟩:=hI.rows i hi j hj
     obtain ⟨X2,Y2,Z2,⟨v1,v2,v3,w1',w2',w3'⟩,hrq⟩:=hQ.nums
     obtain ⟨u1,u2,u3,u4⟩:=hQ.new
     obtain ⟨k1,k2,k3⟩:=hQ.cells
     have kk:∀ {p:Addr} {v:Value},w1.heap.size≤p.block→w.cell? p=some v→w'.cell? p=some v:=fun {p v} hp hv=>by
      obtain ⟨e1,e2,e3⟩:=nb p.block hp
      exact kp hv e1 e2 e3
     have bl:∀ {p:Addr} {v:Value},w.cell? p=some v→p.block<w.heap.size:=fun hv=>World.block_lt_of_cell? w _ hv
     exact ⟨q,kk hI.bt0 hq,⟨kk u1 k1,kk u1 k2,kk u1 k3⟩,⟨X2,Y2,Z2,⟨fun k hk=>kk u2 (v1 k hk),fun k hk=>kk u3 (v2 k hk),fun k hk=>kk u4 (v3 k hk),w1',w2',w3'⟩,hrq⟩,ns _ u1 (bl k1),ns _ u2 (bl (v1 0 (by decide))),ns _ u3 (bl (v2 0 (by decide))),ns _ u4 (bl (v3 0 (by decide)))⟩
    ·obtain ⟨e1,e2,e3⟩:=h.s3
     exact ⟨kp (h.sc i x hi).1 e1 e2 e3,(h.sc i x hi).2⟩
    ·obtain ⟨e1,e2,e3⟩:=h.s3
     have s2':w1.heap.size≤w.heap.size:=hI.below.size
     rcases hs with e | e | e | e | e | e
     ·exact e1 e
     ·exact e2 e
     ·exact e3 e
     ·have:b3=(β 6).1:=e
      omega
     ·have:b3=(β 7).1:=e
      omega
     ·have:b3=(β 8).1:=e
      omega
   ·have:=(hr'.tm 0 _ g0).1
    rw [at_,b1'] at this
    exact this
   ·have:=(hr'.tm 6 _ g6).1
    rw [at_,b5'] at this
    exact this
   ·obtain ⟨c,hc,hcv,_⟩:=hr'.tm 22 _ g22
    rw [at_,b0'] at hcv
    exact ⟨c,hc,hcv⟩
 refine wp_seq (reach _ fun a1 w1 r1=>?_)
 show (Code.seq _ _).wp _ _ a1 w1
 refine wp_seq (r1 _ fun a2 w2 r2=>?_)
 show (Code.seq _ _).wp _ _ a2 w2
 refine wp_seq (r2 _ fun a3 w3 r3=>?_)
 show (Code.seq _ _).wp _ _ a3 w3
 exact wp_seq (wp_seq r3)
theorem meets51 {V w:World} {P:PtR} {b3 o3 c:Nat} {ks:List Nat} (h:Pre51 V w P b3 o3 ks) (hc:28≤c):Meets Try.prog 51 #[ptrTo P.b P.o,.slice (some ⟨b3,o3,none⟩) 28 c] w fun r w'=>r=.tuple #[ptrTo P.b P.o,.nilIface]∧Out51 V w' P (nsmul (ofBytes ks) gg):=by
 refine meets_of_calls Try.func51 (by kernel_rfl) (by kernel_rfl) ?_
 refine calls_of_wp Try.func51 body51 ?_
 have hl3:b3<w.heap.size:=by
  obtain ⟨x,hx⟩:∃ x,ks[0]?=some x:=⟨ks[0]'(by rw [h.len]; decide),List.getElem?_eq_getElem _⟩
  exact World.block_lt_of_cell? w _ (h.sc 0 x hx).1
 have hlP:P.b<w.heap.size:=World.block_lt_of_cell? w _ h.pc.1
 have hargs:ArgsOk (fun _=>0) (plP b3 o3 P 0) 2 [.one (.ptr 1 0),.one (.sl 0 0 28)] [ptrTo P.b P.o,.slice (some ⟨b3,o3,none⟩) 28 c] :=
  ⟨⟨rfl,show 1<2 by decide⟩,⟨c,hc,rfl,show 0<2 by decide⟩,trivial⟩
 obtain ⟨hla,hget⟩:=hargs.get
 have hr0:Rel fixP (fun _=>0) (plP b3 o3 P 0) w stP { tmps:=[ptrTo P.b P.o,Value.slice (some ⟨b3,o3,none⟩) 28 c].toArray ++ Array.replicate (Try.f51.ntmps - [ptrTo P.b P.o,Value.slice (some ⟨b3,o3,none⟩) 28 c].toArray.size) undef,defers:=[] } w :=
  rel_start hla ntmps51 (show 2≤60 by decide) (show 2<4095 by decide) hget (fun r l hl=>by cases hl) (fun r l hl hw=>by cases hl) (fun r hr=>by
   have:r<2:=hr
   rcases (by omega:r=0∨r=1) with rfl | rfl
   ·exact hl3
   ·exact hlP) (fun r q _ _ hs=>by cases hs) (fun i b hb=>by cases hb)
 obtain ⟨st',hst,hout,hnx,hexs,htm,_⟩:=peekL_spec runQ
 have reach:=runL_reach (l:=[b0,b1]) (tabX_ok pointPrims_ok xb6_ok) hr0 hst (by rw [hnx,hexs]; trivial)
  (K:=Exit.then ((Code.seq bT (.seq b4 (.seq b5 (.seq b6 (.seq (.seq b7 (.block 0 (.loop bK))) bZ))))).wp Try.prog (bodyPost Try.prog Try.f51 fun e w''=>∃ r,e=.returned r∧(r=.tuple #[ptrTo P.b P.o,.nilIface]∧Out51 V w'' P (nsmul (ofBytes ks) gg)))) (bodyPost Try.prog Try.f51 fun e w''=>∃ r,e=.returned r∧(r=.tuple #[ptrTo P.b P.o,.nilIface]∧Out51 V w'' P (nsmul (ofBytes ks) gg))))
  fun β a' w' hag hr'=>by
   show (Code.seq bT _).wp _ _ a' w'
   injection htm with g0 htm
   injection htm with g1 _
   have ht:TmS a' P b3 o3:=tmS_of hr' rfl (hag 0 (show 0<2 by decide)) (hag 1 (show 1<2 by decide)) g0 g1
   have hb:=hr'.below
   rw [hout] at hb
   have sz:=hb.size
   refine wp_seq (call79 ht (Nat.lt_of_lt_of_le hl3 sz) (Nat.lt_of_lt_of_le hlP sz) fun a2 w1 w2 bt Pb hb1 hI ht2 h6=>?_)
   show (Code.seq b4 _).wp _ _ a2 w2
   have h1:=(h.mono hb).mono hb1
   have h2:=h1.mono hI.below
   have hl1:b3<w1.heap.size:=Nat.lt_of_lt_of_le (Nat.lt_of_lt_of_le hl3 sz) hb1.size
   exact tail51 h2 hI ⟨World.block_lt_of_cell? w1 _ h1.pc.1,h1.pr.2.1,h1.pr.2.2.1,h1.pr.2.2.2,hl1⟩ ht2 h6 fun w' ho=>⟨rfl,ho⟩
 rw [shape51]
 refine wp_seq (reach _ fun a1 w1 r1=>?_)
 show (Code.seq _ _).wp _ _ a1 w1
 exact wp_seq r1
end P224
/- impl.P224ScalarBase: its code and its runs. -/
namespace P224
open Go Go.RowKit Go.Proofs
set_option maxRecDepth 100000
set_option linter.unusedVariables false
theorem steps_pre {P:Program} {T:Tab} (hT:T.Ok P) {F:Fix} {s:Nums} {w0:World} {ops:Array Oper} {Q:Exit→Act→World→Prop} {l2:List Oper}:∀ {l:List Oper} {β:Places} {st st':St} {a:Act} {w:World},Rel F s β w0 st a w→steps T F ops l st=some st'→Holds s st'.nx st'.exs →
  (∀ β' a' w',Agree β β' st.nr→Rel F s β' w0 st' a' w'→wpList P ops Q l2 a' w')→wpList P ops Q (l ++ l2) a w
 | [],β,st,st',a,w,h,hs,_,hn=>by
  cases hs
  exact hn β a w (Agree.refl _ _) h
 | o :: l,β,st,st',a,w,h,hs,hH,hn=>by
  rw [steps] at hs
  split at hs
  ·rename_i st1 h1
   have hg:=steps_grows hT hs
   rw [List.cons_append,wpList]
   rcases step_wants h1 with hw | ⟨hw,hp⟩
   ·rw [wants_rep h hw,if_pos rfl]
    refine .inl (step_wp hT h h1 hw (hg.le.holds hH) fun β1 a1 w1 hag hr=>?_)
    exact steps_pre hT hr hs hH fun β' a' w' hag' hr'=>hn β' a' w' (hag.trans hag' (step_grows hT h1).nr) hr'
   ·rw [wants_rep h hw,if_neg (by decide)]
    have hr:=h.put hp (x:=undef) rfl
    exact steps_pre hT hr hs hH fun β' a' w' hag' hr'=>hn β' a' w' ((Agree.refl _ _).trans hag' (step_grows hT h1).nr) hr'
  ·cases hs
theorem NewAt.shift {V w w':World} {v:Value} {p:Pt pp} (h:NewAt w v w' p) (hb:Below V.heap.size V w):NewAt V v w' p:=by
 cases h with
 | far b hge hlt hv hp hz hb2=>exact .far b (Nat.le_trans hb.size hge) hlt hv hp hz (hb.trans (hb2.mono hb.size))
 | on b x y hge hlt hv hp hx hy hz hb2=>exact .on b x y (Nat.le_trans hb.size hge) hlt hv hp hx hy hz (hb.trans (hb2.mono hb.size))
noncomputable def c21:Code:=Try.f21.body.getD .skip
noncomputable def d0:Code:=sL c21
noncomputable def d1:Code:=sL (sR c21)
noncomputable def dZ:Code:=sR (sR c21)
theorem shape21:c21=.seq d0 (.seq d1 dZ):=by kernel_rfl
noncomputable def ops21:Array Oper:=cOps d1
theorem shape21r:d1=.region (cId d1) ops21 false:=by kernel_rfl
noncomputable def pre21:List Oper:=ops21.toList.take 3
noncomputable def o21:Oper:=ops21.getD 3 dftOp
noncomputable def post21:List Oper:=ops21.toList.drop 4
theorem list21:ops21.toList=pre21 ++ (o21 :: post21):=by kernel_rfl
noncomputable def c51':Call:=match o21.op with
 | .call c=>c
 | _=>{ callee:=.value (.const .nilIface),args:=#[],argTypes:=#[] }
theorem o21_call:o21.op=.call c51':=by kernel_rfl
theorem c51_callee:c51'.callee=.value (.func 51):=by kernel_rfl
theorem o21_guard:o21.guard=none:=by kernel_rfl
def fix21 (d:List (Nat × Bool)) (n:Nat):Fix:=fixG 17 n d []
def st21:St:=headSt [(0,.one (.sl 0 0 28))] [(0,numsFrom .u8 0 28)] 28 1
end P224
/- impl.P224ScalarBase: its contract. -/
namespace P224
open Go Go.RowKit Go.Proofs
set_option maxRecDepth 100000
set_option linter.unusedVariables false
def ml21:List (Nat × List A0):=[(0,ptCells 0),(1,limbs 0),(2,limbs 1),(3,limbs 2)]
def tl21:List (Nat × AV):=[(4,.one (.ptr 0 0)),(5,.one (.lit .nilIface))]
theorem run21F:briefR (tabX true pointPrims xi6) Try.f21 [4] (run (tabX true pointPrims xi6) (fix21 [(3,true),(4,true)] 4) 3000 dZ (headSt tl21 ml21 3 4))=some ⟨.ret,5,farT 3 ++ [],[],[.one (.slc 4 0 1 57),.one (.lit (.bool true))],[some farRow]⟩:=by kernel_rfl
theorem run21N:briefR (tabX true pointPrims xi6) Try.f21 [4] (run (tabX true pointPrims xi6) (fix21 [(3,false),(4,false)] 4) 3000 dZ (headSt tl21 ml21 3 4))=some ⟨.ret,11,onT 3 ++ [],[],[.one (.slc 4 0 57 57),.one (.lit (.bool true))],[some (ptRow 8 10)]⟩:=by kernel_rfl
structure TmE (a:Act) (P:PtR):Prop where
 size:a.tmps.size=17
 defs:a.defers=[]
 t4:a.tmps.getD 4 undef=ptrTo P.b P.o
 t5:a.tmps.getD 5 undef=.nilIface
theorem rel21 {V w:World} {P:PtR} {g:Pt pp} (h:Out51 V w P g) {a:Act} (ht:TmE a P) {X Y Z:Nat} (hv:P.val w X Y Z) {s:Nums} (s0:s 0=X) (s1:s 1=Y) (s2:s 2=Z) {d:List (Nat × Bool)} (hd:Dec (fix21 d 4) s) :
  Rel (fix21 d 4) s (ptPlace P) w (headSt tl21 ml21 3 4) a w:=by
 obtain ⟨vx,vy,vz,lx,ly,lz⟩:=hv
 refine rel_here ht.size ht.defs (fun e he=>?_) ⟨show 0<4 by decide,pt_row (p:=P) rfl rfl rfl rfl h.pc (show 0+3<4 by decide),show 1<4 by decide,limb_row rfl vx s0 lx,show 2<4 by decide,limb_row rfl vy s1 ly,show 3<4 by decide,limb_row rfl vz s2 lz,trivial⟩ (fun r l hl hw=>by cases hw) (fun r hr=>?_) (fun r q _ _ hs=>by cases hs) hd fun _=>rfl
 ·simp only [tl21,List.mem_cons,List.not_mem_nil,or_false] at he
  rcases he with rfl | rfl
  ·exact ⟨ht.t4,show 0<4 by decide⟩
  ·exact ht.t5
 ·exact ptPlace_lt h.pc (World.block_lt_of_cell? w _ (vx 0 (by decide))) (World.block_lt_of_cell? w _ (vy 0 (by decide))) (World.block_lt_of_cell? w _ (vz 0 (by decide))) r
theorem out2 {s:Nums} {β:Places} {n R m:Nat} {v:Value} (h:(resAV [.one (.slc R 0 m 57),.one (.lit (.bool true))]).rep s β n v):v=.tuple #[.slice (some (at_ β R 0)) m 57,.bool true]:=by
 obtain ⟨vs,rfl,hl⟩:=h
 match vs,hl with
 | [a,b],⟨ha,hb,_⟩ =>
  have hb':b=.bool true:=hb
  rw [ha.1,hb']
theorem end21 {V w:World} {P:PtR} {g:Pt pp} (h:Out51 V w P g) {a:Act} (ht:TmE a P):dZ.wp Try.prog (bodyPost Try.prog Try.f21 fun e w''=>∃ r,e=.returned r∧∃ v,r=.tuple #[v,.bool true]∧NewAt V v w'' g) a w:=by
 have hT:(tabX true pointPrims xi6).Ok Try.prog:=tabX_ok pointPrims_ok xi6_ok
 obtain ⟨X,Y,Z,hv,hrep⟩:=h.val
 by_cases hfar:g=.far
 ·obtain ⟨s,hH,hs⟩:=exists_nums (fun i=>if i=0 then X else if i=1 then Y else Z) (l:=farT 3 ++ []) (n:=5) (by decide +kernel) (by decide +kernel)
  have s0:s 0=X:=hs 0 (by decide +kernel)
  have s1:s 1=Y:=hs 1 (by decide +kernel)
  have s2:s 2=Z:=hs 2 (by decide +kernel)
  obtain ⟨f1,f2⟩:=lawFar (e:=0) (p:=g) (by rw [s2]; exact hv.2.2.2.2.2) (by show Rep (toTri pp (s 0,s 1,s 2)) g; rw [s0,s1,s2]; exact hrep) hfar hH
  obtain ⟨st2,hrun2,n1,n2,n3,hres,hmm⟩:=briefR_spec run21F
  refine run_wp hT (rel21 h ht hv s0 s1 s2 fun i b hb=>?_) hrun2 (by rw [n1,n2]; exact hH) fun β3 a3 w3 hag3 hr3=>?_
  ·have hm:=findT_mem (show findT i [(3,true),(4,true)]=some b from hb)
   simp only [List.mem_cons,List.not_mem_nil,or_false,Prod.mk.injEq] at hm
   rcases hm with ⟨rfl,rfl⟩|⟨rfl,rfl⟩
   ·exact f1
   ·exact f2
  ·obtain ⟨v3,hv1,hv2⟩:=results_run hT hr3 hres
   have hb3:=hr3.below
   rw [n3] at hb3
   injection (show [lookup 4 st2.mem]=[some farRow] from hmm) with hm
   exact ⟨hr3.defs,v3,hv1,v3,rfl,_,out2 hv2,((newAt_far hr3 (l:=List.replicate 56 (.lit (.int .u8 0))) hm (show 4≤4 by decide) hb3 rfl).of_eq hfar).shift h.below⟩
 ·obtain ⟨s,hH,hs⟩:=exists_nums (fun i=>if i=0 then X else if i=1 then Y else Z) (l:=onT 3 ++ []) (n:=11) (by decide +kernel) (by decide +kernel)
  have s0:s 0=X:=hs 0 (by decide +kernel)
  have s1:s 1=Y:=hs 1 (by decide +kernel)
  have s2:s 2=Z:=hs 2 (by decide +kernel)
  obtain ⟨f1,f2,f3,f4⟩:=lawOn (e:=0) (p:=g) (by rw [s2]; exact hv.2.2.2.2.2) (by show Rep (toTri pp (s 0,s 1,s 2)) g; rw [s0,s1,s2]; exact hrep) hfar hH
  obtain ⟨st2,hrun2,n1,n2,n3,hres,hmm⟩:=briefR_spec run21N
  refine run_wp hT (rel21 h ht hv s0 s1 s2 fun i b hb=>?_) hrun2 (by rw [n1,n2]; exact hH) fun β3 a3 w3 hag3 hr3=>?_
  ·have hm:=findT_mem (show findT i [(3,false),(4,false)]=some b from hb)
   simp only [List.mem_cons,List.not_mem_nil,or_false,Prod.mk.injEq] at hm
   rcases hm with ⟨rfl,rfl⟩|⟨rfl,rfl⟩
   ·exact f1
   ·exact f2
  ·obtain ⟨v3,hv1,hv2⟩:=results_run hT hr3 hres
   have hb3:=hr3.below
   rw [n3] at hb3
   injection (show [lookup 4 st2.mem]=[some (ptRow 8 10)] from hmm) with hm
   exact ⟨hr3.defs,v3,hv1,v3,rfl,_,out2 hv2,((newAt_on hr3 hm (show 4≤4 by decide) hb3 f3 f4 (xOf_lt _) (yOf_lt _) rfl).of_eq (on_eq hfar)).shift h.below⟩
end P224
/- impl.P224ScalarBase: its contract. -/
namespace P224
open Go Go.RowKit Go.Proofs
set_option maxRecDepth 100000
set_option linter.unusedVariables false
def peekSm (x:Option St) (ts rs:List Nat):Option (Nat × List Ex × Bool × List (Option AV) × List (Option (List A0))):=x.map fun st=>(st.nx,st.exs,st.out.isEmpty,ts.map st.tm.get,rs.map fun r=>lookup r st.mem)
theorem peekSm_spec {x:Option St} {ts rs:List Nat} {n:Nat} {e:List Ex} {l:List (Option AV)} {m:List (Option (List A0))} (h:peekSm x ts rs=some (n,e,true,l,m)):∃ st,x=some st∧st.nx=n∧st.exs=e∧st.out=[]∧ts.map st.tm.get=l∧(rs.map fun r=>lookup r st.mem)=m:=by
 cases x with
 | none=>cases h
 | some st =>
  simp only [peekSm,Option.map_some,Option.some.injEq,Prod.mk.injEq] at h
  obtain ⟨h1,h2,h3,h4,h5⟩:=h
  exact ⟨st,rfl,h1,h2,List.isEmpty_iff.1 h3,h4,h5⟩
theorem ntmps21:Try.f21.ntmps=17:=by kernel_rfl
theorem body21:Try.f21.body=some c21:=by kernel_rfl
theorem run21s:peekL (tabX true pointPrims xi6) (fix21 [] 1) 3000 [d0] (startSt [.one (.sl 0 0 28)] [(0,numsFrom .u8 0 28)] 28 1) [0] [0]=some ⟨.normal,28,[],[some (.one (.sl 0 0 28))],[some (numsFrom .u8 0 28)]⟩:=by kernel_rfl
theorem run21p:peekSm (steps (tabX true pointPrims xi6) (fix21 [] 1) ops21 pre21 st21) [7,9] [1,2,3,4,6]=some (32,[.fcst 0,.fcst 1,.fcst 0,.fcst 0],true,[some (.one (.ptr 4 0)),some (.one (.sl 6 0 28))],[some (limbs 28),some (limbs 30),some (limbs 31),some [.ptr 1 0,.ptr 2 0,.ptr 3 0],some (numsFrom .u8 0 28)]):=by kernel_rfl
theorem run21q:peekSm ((putTm (fix21 [] 1) (headSt [] [] 0 1) o21.dst (.tup [.one (.ptr 0 0),.one (.lit .nilIface)])).bind fun st=>steps (tabX true pointPrims xi6) (fix21 [] 1) ops21 post21 st) [4,5] []=some (0,[],true,[some (.one (.ptr 0 0)),some (.one (.lit .nilIface))],[]):=by kernel_rfl
theorem args51:c51'.args.toList=[.tmp 7,.tmp 9]:=by kernel_rfl
theorem nums28:(List.range 28).map (fun j=>(numsFrom .u8 0 28)[j]?)=(List.range 28).map fun j=>some (.num .u8 j):=by rfl
theorem meets21 (w:World) (v1:Value) (ks:List Nat) (h1:KAt w v1 ks):Meets Try.prog 21 #[v1] w fun r w'=>∃ v,r=.tuple #[v,.bool true]∧NewAt w v w' (nsmul (ofBytes ks) gg):=by
 have hT:(tabX true pointPrims xi6).Ok Try.prog:=tabX_ok pointPrims_ok xi6_ok
 refine meets_of_calls Try.func21 (by kernel_rfl) (by kernel_rfl) ?_
 refine calls_of_wp Try.func21 body21 ?_
 obtain ⟨bs,os,cs,rfl,hcs,hlen,hk⟩:=h1
 have kget:∀ m,m<28→w.cell? ⟨bs,os+m,none⟩=some (.int .u8 ((ks.getD m 0:Nat):Int))∧ks.getD m 0<256:=fun m hm=>hk m _ (by rw [List.getD_eq_getElem?_getD,List.getElem?_eq_getElem (by omega)]; rfl)
 have lts:bs<w.heap.size:=World.block_lt_of_cell? w _ (kget 0 (by decide)).1
 obtain ⟨s,hH,hs⟩:=exists_nums (fun i=>ks.getD i 0) (l:=[.fcst 0,.fcst 1,.fcst 0,.fcst 0]) (n:=32) (by decide +kernel) (by decide +kernel)
 have hs':∀ i,i<28→s i=ks.getD i 0:=fun i hi=>hs i hi
 have hargs:ArgsOk s (fun _=>(bs,os)) 1 [.one (.sl 0 0 28)] [.slice (some ⟨bs,os,none⟩) 28 cs]:=⟨⟨cs,hcs,rfl,show 0<1 by decide⟩,trivial⟩
 obtain ⟨hla,hget⟩:=hargs.get
 have hmem:MemOk s (fun _=>(bs,os)) 1 w [(0,numsFrom .u8 0 28)]:=⟨show 0<1 by decide,row_nums 28 0 0 (fun m hm=>by
  rw [Nat.zero_add,hs' m hm]
  exact kget m hm),trivial⟩
 have hr0:Rel (fix21 [] 1) s (fun _=>(bs,os)) w (startSt [.one (.sl 0 0 28)] [(0,numsFrom .u8 0 28)] 28 1) { tmps:=[Value.slice (some ⟨bs,os,none⟩) 28 cs].toArray ++ Array.replicate (Try.f21.ntmps - [Value.slice (some ⟨bs,os,none⟩) 28 cs].toArray.size) undef,defers:=[] } w :=
  rel_start hla ntmps21 (show 1≤17 by decide) (show 1<4095 by decide) hget hmem.get (fun r l hl hw=>by cases hw) (fun r _=>lts) (fun r q _ _ hq=>by cases hq) (fun i b hb=>by cases hb)
 obtain ⟨st0,hst0,hout0,hnx0,hexs0,htm0,hmm0⟩:=peekL_spec run21s
 have reach:=runL_reach (l:=[d0]) hT hr0 hst0 (by rw [hnx0,hexs0]; trivial)
  (K:=Exit.then ((Code.seq d1 dZ).wp Try.prog (bodyPost Try.prog Try.f21 fun e w''=>∃ r,e=.returned r∧∃ v,r=.tuple #[v,.bool true]∧NewAt w v w'' (nsmul (ofBytes ks) gg))) (bodyPost Try.prog Try.f21 fun e w''=>∃ r,e=.returned r∧∃ v,r=.tuple #[v,.bool true]∧NewAt w v w'' (nsmul (ofBytes ks) gg)))
  fun β a0 w0 hag hr'=>by
   show (Code.seq d1 dZ).wp _ _ a0 w0
   injection htm0 with g0 _
   injection hmm0 with m0 _
   have hb0:=hr'.below
   rw [hout0] at hb0
   have e0:β 0=(bs,os):=hag 0 (show 0<1 by decide)
   obtain ⟨c0,hc0,hv0,_⟩:=hr'.tm 0 _ g0
   have kget0:∀ m,m<28→w0.cell? ⟨bs,os+m,none⟩=some (.int .u8 ((ks.getD m 0:Nat):Int))∧ks.getD m 0<256:=fun m hm=>⟨(hb0.cell (p:=⟨bs,os+m,none⟩) lts).trans (kget m hm).1,(kget m hm).2⟩
   have hr1:Rel (fix21 [] 1) s (fun _=>(bs,os)) w0 st21 a0 w0:=by
    refine rel_here hr'.size hr'.defs (fun e he=>?_) ⟨show 0<1 by decide,row_nums 28 0 0 (fun m hm=>by
     rw [Nat.zero_add,hs' m hm]
     exact kget0 m hm),trivial⟩ (fun r l hl hw=>by cases hw) (fun r _=>Nat.lt_of_lt_of_le lts hb0.size) (fun r q _ _ hq=>by cases hq) (fun i b hb=>by cases hb) fun _=>rfl
    simp only [List.mem_cons,List.not_mem_nil,or_false] at he
    subst he
    exact ⟨c0,hc0,by rw [hv0,at_,e0]; rfl,show 0<1 by decide⟩
   refine wp_seq ?_
   rw [shape21r]
   refine wp_region_list ?_
   rw [list21]
   obtain ⟨st1,hst1,hnx1,hexs1,hout1,htm1,hmm1⟩:=peekSm_spec run21p
   refine steps_pre hT hr1 hst1 (by rw [hnx1,hexs1]; exact hH) fun β1 a1 w1 hag1 hr2=>?_
   injection htm1 with g7 htm1
   injection htm1 with g9 _
   injection hmm1 with m1 hmm1
   injection hmm1 with m2 hmm1
   injection hmm1 with m3 hmm1
   injection hmm1 with m4 hmm1
   injection hmm1 with m6 _
   have hb1:=hr2.below
   rw [hout1] at hb1
   have nn:∀ {r l},lookup r st1.mem=some l→1≤r→w0.heap.size≤(β1 r).1∧(β1 r).1<w1.heap.size:=fun {r l} hl hge=>by
    obtain ⟨f1,f2,_⟩:=hr2.fresh r hge (hr2.mem _ _ hl).1
    exact ⟨f1,f2⟩
   have dd:∀ {r q l l'},lookup r st1.mem=some l→lookup q st1.mem=some l'→1≤r→1≤q→r≠q→(β1 r).1≠(β1 q).1:=fun hl hl' h1 h2 hne=>hr2.dist _ _ h1 h2 (hr2.mem _ _ hl).1 (hr2.mem _ _ hl').1 hne
   have room:∀ {r i:Nat},1≤r→lookup r st1.mem=some (limbs i)→RoomAt w1 (β1 r).1 (β1 r).2:=fun {r i} hge hl k hk=>⟨⟨_,(limbs_el hr2 hl).1 k hk⟩,hr2.frz r _ hl (.inl hge) k hk⟩
   obtain ⟨f1,d1'⟩:=nn m1 (by decide)
   obtain ⟨f2,d2'⟩:=nn m2 (by decide)
   obtain ⟨f3,d3'⟩:=nn m3 (by decide)
   obtain ⟨x1,l1⟩:=limbs_el hr2 m1
   obtain ⟨x2,l2⟩:=limbs_el hr2 m2
   obtain ⟨x3,l3⟩:=limbs_el hr2 m3
   have hbw:Below w.heap.size w w1:=hb0.trans (hb1.mono hb0.size)
   have hpre:Pre51 w w1 ⟨(β1 4).1,(β1 4).2,(β1 1).1,(β1 1).2,(β1 2).1,(β1 2).2,(β1 3).1,(β1 3).2⟩ (β1 6).1 (β1 6).2 ks :=
    {
     below:=hbw,pc:=⟨(ptr_cell hr2 m4 (j:=0) rfl).1,(ptr_cell hr2 m4 (j:=1) rfl).1,(ptr_cell hr2 m4 (j:=2) rfl).1⟩,pr:=⟨⟨room (by decide) m1,room (by decide) m2,room (by decide) m3⟩,d1',d2',d3'⟩
     pa:=⟨dd m4 m1 (by decide) (by decide) (by decide),dd m4 m2 (by decide) (by decide) (by decide),dd m4 m3 (by decide) (by decide) (by decide),dd m1 m2 (by decide) (by decide) (by decide),dd m1 m3 (by decide) (by decide) (by decide),dd m2 m3 (by decide) (by decide) (by decide)⟩
     val:=⟨_,_,_,x1,x2,x3,l1,l2,l3⟩,new:=⟨Nat.le_trans hb0.size f1,Nat.le_trans hb0.size f2,Nat.le_trans hb0.size f3⟩,len:=hlen
     sc:=fun i x hi=>by
      have hi28:i<28:=by
       have:=(List.getElem?_eq_some_iff.1 hi).1
       omega
      obtain ⟨v,q1,q2,q3⟩:=(hr2.mem _ _ m6).2 i (.num .u8 i) (map_mem (f:=fun j=>(numsFrom .u8 0 28)[j]?) (g:=fun j=>some (.num .u8 j)) nums28 i (List.mem_range.2 hi28))
      have ex:s i=x:=(hs' i hi28).trans (by rw [List.getD_eq_getElem?_getD,hi]; rfl)
      rw [q2,ex] at q1
      rw [ex] at q3
      exact ⟨q1,q3⟩
     s3:=⟨dd m6 m1 (by decide) (by decide) (by decide),dd m6 m2 (by decide) (by decide) (by decide),dd m6 m3 (by decide) (by decide) (by decide)⟩ }
   obtain ⟨c9,hc9,hv9,_⟩:=hr2.tm 9 _ g9
   have hv7:=(hr2.tm 7 _ g7).1
   rw [wpList]
   have hwB:Region.wanted o21 (yielded ops21 a1.tmps)=true:=by
    unfold Region.wanted
    rw [o21_guard]
   rw [hwB,if_pos rfl]
   refine .inl (call_wp (s:=fun _=>0) o21_call c51_callee (R:=fun r w'=>r=.tuple #[ptrTo (β1 4).1 (β1 4).2,.nilIface]∧Out51 w w' ⟨(β1 4).1,(β1 4).2,(β1 1).1,(β1 1).2,(β1 2).1,(β1 2).2,(β1 3).1,(β1 3).2⟩ (nsmul (ofBytes ks) gg)) (by
    rw [args51]
    show Meets Try.prog 51 #[a1.tmps.getD 7 undef,a1.tmps.getD 9 undef] w1 _
    rw [hv7,hv9]
    exact meets51 hpre hc9) fun v w2 hR=>?_)
   obtain ⟨rfl,hO⟩:=hR
   obtain ⟨stC,hC,k1,k2,k3,k4,_⟩:=peekSm_spec run21q
   obtain ⟨stB,hB,hC⟩:=Option.bind_eq_some_iff.1 hC
   have h2:Rel (fix21 [] 1) (fun _=>0) (fun _=>((β1 4).1,(β1 4).2)) w2 (headSt [] [] 0 1) a1 w2 :=
    rel_here hr2.size hr2.defs (fun e he=>by cases he) trivial (fun r l hl=>by cases hl) (fun r _=>World.block_lt_of_cell? w2 _ hO.pc.1) (fun r q _ _ hq=>by cases hq) (fun i b hb=>by cases hb) fun _=>rfl
   have h3:=h2.put hB (x:=.tuple #[ptrTo (β1 4).1 (β1 4).2,.nilIface]) ⟨[_,_],rfl,⟨rfl,show 0<1 by decide⟩,rfl,trivial⟩
   refine steps_wp hT h3 hC (by rw [k1,k2]; trivial) fun β3 a3 w3 hag3 hr3=>?_
   have hnr:stB.nr=1:=(put_st hB).2.2.1
   have hb3:=hr3.below
   rw [k3] at hb3
   injection k4 with g4 k4
   injection k4 with g5 _
   have e3:β3 0=((β1 4).1,(β1 4).2):=hag3 0 (by rw [hnr]; decide)
   have t4:=(hr3.tm 4 _ g4).1
   rw [at_,e3] at t4
   have kp:∀ {p:Addr} {v:Value},w2.cell? p=some v→w3.cell? p=some v:=fun hv=>by
    rw [hb3.cell (World.block_lt_of_cell? w2 _ hv)]
    exact hv
   obtain ⟨X,Y,Z,⟨v1,v2,v3,lv⟩,hrep⟩:=hO.val
   have hO3:Out51 w w3 ⟨(β1 4).1,(β1 4).2,(β1 1).1,(β1 1).2,(β1 2).1,(β1 2).2,(β1 3).1,(β1 3).2⟩ (nsmul (ofBytes ks) gg) :=
    ⟨hO.below.trans (hb3.mono hO.below.size),⟨kp hO.pc.1,kp hO.pc.2.1,kp hO.pc.2.2⟩,X,Y,Z,⟨fun k hk=>kp (v1 k hk),fun k hk=>kp (v2 k hk),fun k hk=>kp (v3 k hk),lv⟩,hrep⟩
   exact end21 hO3 ⟨hr3.size,hr3.defs,t4,hr3.tm 5 _ g5⟩
 rw [shape21]
 exact wp_seq reach
end P224
/- impl.P224ScalarBase in the executor. -/
namespace P224
open Go Go.RowKit Go.Proofs
set_option maxRecDepth 100000
set_option linter.unusedVariables false
def xBase:X:=fun F st args=>match args with
 | [.one k]=>match k.asSl with
  | some (r,o,28)=>match wordsAt .u8 st.mem r o 28 with
   | some ws=>match outP F { st with nx:=st.nx+1,exs:=.op 2 ws :: st.exs } (.new (.op 25 [.c gxN,.c gyN,.v st.nx]) (.op 26 [.c gxN,.c gyN,.v st.nx]) (.op 27 [.c gxN,.c gyN,.v st.nx])) with
    | some (x,st')=>some (.tup [.one x,.one (.lit (.bool true))],st')
    | none=>none
   | none=>none
  | _=>none
 | _=>none
theorem xBase_ok {f:FuncId} (hm:∀ (w:World) (v:Value) (ks:List Nat),KAt w v ks→Meets Try.prog f #[v] w fun r w'=>∃ u,r=.tuple #[u,.bool true]∧NewAt w u w' (nsmul (ofBytes ks) gg)):XOk Try.prog f xBase:=by
 refine ⟨fun {F st st' args av} h=>?_,fun {s β F w0 st st' a w args vs av} hr h hargs hH=>?_⟩
 ·unfold xBase at h
  split at h
  ·split at h
   ·rename_i r o hk
    split at h
    ·rename_i ws hw
     split at h
     ·rename_i h3
      cases h
      have g:Grows st { st with nx:=st.nx+1,exs:=.op 2 ws :: st.exs }:=⟨⟨[_],rfl,rfl⟩,Nat.le_refl _⟩
      exact g.trans (outP_grows h3)
     ·cases h
    ·cases h
   ·cases h
  ·cases h
 ·unfold xBase at h
  split at h
  ·rename_i kb
   split at h
   ·rename_i r o hk
    split at h
    ·rename_i ws hw
     split at h
     ·rename_i x st3 h3
      cases h
      obtain ⟨v,rfl,hv⟩:=avs1 hargs
      have g3:=outP_grows h3
      have H2:=g3.le.holds hH
      have ek:s st.nx=ofBytes (ws.map (Wd.val s)):=H2.1
      obtain ⟨⟨c,hva,hca⟩,_⟩:=asSl_rep hk hv
      obtain ⟨l1,l2,l3⟩:=wordsAt_rep hr hw
      have hK:KAt w v (ws.map (Wd.val s)):=⟨_,_,c,hva,hca,by rw [List.length_map,l1],fun i x hx=>by
       rw [List.getElem?_map] at hx
       cases hj:ws[i]? with
       | none=>rw [hj] at hx; cases hx
       | some y =>
        rw [hj] at hx
        cases hx
        obtain ⟨g1,g2⟩:=l3 i y hj
        rw [at_,← Nat.add_assoc] at g1
        exact ⟨g1,g2⟩⟩
      have hme:=hm w v _ hK
      intro o' a' next Q hn
      refine hme o' a' next Q fun r w' ⟨v',hr',hnew⟩=>hn _ _ ?_
      rw [← ek] at hnew
      obtain ⟨β',q1,q2,q3⟩:=outP_ok (hr.nums (st.nx+1) (.op 2 ws :: st.exs)) h3 (p:=nsmul (s st.nx) gg) ⟨rfl,rfl,rfl⟩ hnew hH
      exact ⟨β',q1,⟨[_,_],hr',q2,rfl,trivial⟩,q3⟩
     ·cases h
    ·cases h
   ·cases h
  ·cases h
theorem xBase21_ok:XOk Try.prog 21 xBase:=xBase_ok meets21
end P224
/- The tables of laws BaseIsMult and ScalarBase. -/
namespace P224
open Go Go.RowKit Go.Proofs
set_option maxRecDepth 100000
set_option linter.unusedVariables false
noncomputable def xt19:List (Nat × X):=(21,xBase) :: with1 (with1 xt1 pointPrims 2000 76 Try.f76) pointPrims 2000 48 Try.f48
theorem xt19_ok:XsOk xt19:=xcons_ok xBase21_ok (with1_ok pointPrims_ok (with1_ok pointPrims_ok xt1_ok Try.func76 (by kernel_rfl)) Try.func48 (by kernel_rfl))
noncomputable def xt3:List (Nat × X):=(21,xBase) :: xt14
theorem xt3_ok:XsOk xt3:=xcons_ok xBase21_ok xt14_ok
noncomputable def c19:Code:=Try.f19.body.getD .skip
noncomputable def c3:Code:=Try.f3.body.getD .skip
end P224
