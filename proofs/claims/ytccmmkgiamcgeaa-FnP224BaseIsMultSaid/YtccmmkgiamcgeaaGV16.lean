/- The package's ScalarMult of bytes into the point itself: its runs. PRINTED BY A PROGRAM OF MY OWN (gen/mk46.py). -/
import Derived.Test.YtccmmkgiamcgeaaGV12
import Derived.Test.YtccmmkgiamcgeaaGV13
import Derived.Test.YtccmmkgiamcgeaaGQ3
set_option linter.all false
namespace P224
open Go Go.RowKit Go.Proofs
set_option maxRecDepth 100000
set_option linter.unusedVariables false
def layA6:Lay:=⟨0,1,31,92,2⟩
def layF6:Lay:=⟨32,34,35,96,0⟩
def exA6:List Ex:=hsE layA6 (newsE 2 (fifE layA6 (newsE 15 [.fcst 1,.op 20 [.v 0,.v 1]]) 7)) 55
def exF6:List Ex:=hsE layF6 (newsE 2 (fifE layF6 (newsE 17 []) 7)) 55
def fix46A (b:Bool):Fix:=fixM 30 2 92 [(30,true),(1250,b),(1251,b)]
def fix46F:Fix:=fixM 30 2 96 [(1254,true),(1255,true)]
def br46A:BriefR:=⟨.ret,1258,onT 1250 ++ exA6,[],[.one (.slc 77 0 57 57),.one (.lit (.bool true)),.one (.lit (.bool true))],[some (ptRow 1255 1257)]⟩
def br46B:BriefR:=⟨.ret,1252,farT 1250 ++ exA6,[],[.one (.slc 77 0 1 57),.one (.lit (.bool true)),.one (.lit (.bool true))],[some farRow]⟩
def br46F:BriefR:=⟨.ret,1256,farT 1254 ++ exF6,[],[.one (.slc 83 0 1 57),.one (.lit (.bool true)),.one (.lit (.bool true))],[some farRow]⟩
theorem run46A:briefR (tabX true pointPrims xm75) Try.f46 [77] (runF (tabX true pointPrims xm75) (fix46A false) 3000 Try.f46 stA)=some br46A:=by kernel_rfl
theorem run46B:briefR (tabX true pointPrims xm75) Try.f46 [77] (runF (tabX true pointPrims xm75) (fix46A true) 3000 Try.f46 stA)=some br46B:=by kernel_rfl
theorem run46F:briefR (tabX true pointPrims xm75) Try.f46 [83] (runF (tabX true pointPrims xm75) fix46F 3000 Try.f46 stF)=some br46F:=by kernel_rfl
end P224
/- The package's ScalarMult of bytes into the point itself: its contract. PRINTED BY A PROGRAM OF MY OWN (gen/mk46.py). -/
namespace P224
open Go Go.RowKit Go.Proofs
set_option maxRecDepth 100000
set_option linter.unusedVariables false
theorem meets46 (w:World) (v1 v2:Value) (p:Pt pp) (ks:List Nat) (h1:PtAt w v1 p) (h2:KAt w v2 ks):Meets Try.prog 46 #[v1,v2] w (OutMul w (nsmul (ofBytes ks) p)):=by
 refine meets_of_calls Try.func46 (by kernel_rfl) (by kernel_rfl) ?_
 obtain ⟨b1,o1,c1,hv1,hc1,hlen,hk⟩:=h2
 subst hv1
 have kget:∀ m,m<28→w.cell? ⟨b1,o1+m,none⟩=some (.int .u8 ((ks.getD m 0:Nat):Int))∧ks.getD m 0<256:=fun m hm=>by
  have hx:ks[m]?=some (ks.getD m 0):=by rw [List.getD_eq_getElem?_getD,List.getElem?_eq_getElem (by omega)]; rfl
  exact hk m _ hx
 have lt1:b1<w.heap.size:=World.block_lt_of_cell? w _ (kget 0 (by decide)).1
 cases h1 with
 | far b0 o0 c0 hv0 hc0 hp0 =>
  subst hv0
  have lt0:b0<w.heap.size:=World.block_lt_of_cell? w _ hp0
  have law:∀ s:Nums,(∀ i,i<28→s i=ks.getD i 0)→Holds s 1256 (farT 1254 ++ exF6)→(∀ k,k≤55→s (96+51+20*k)=1)∧s 1254=1∧s 1255=1:=fun s hs hH=>by
   have hM:Holds s (layF6.tb+1158) (hsE layF6 (newsE 2 (fifE layF6 (newsE 17 []) 7)) 55):=hH.2.2
   obtain ⟨q1,q2,_,q4⟩:=lawM (L:=layF6) (p:=.far) trivial (fun h=>newE_far (m:=32) (l:=newsE 1 []) (newsE_rest 15 (m:=36) h)) (fun m hm=>by
    show s (0+m)<256
    rw [Nat.zero_add,hs m hm]
    exact (kget m hm).2) hM
   obtain ⟨f1,f2⟩:=lawFar (e:=1251) q4 q1 (nsmul_far _) hH
   exact ⟨q2,f1,f2⟩
  refine calls_briefR (F:=fix46F) (tabX_ok pointPrims_ok xm75_ok) run46F Try.func46 Try.ntmps46 rfl (by decide +kernel) (by decide +kernel) (by decide +kernel) (show 2≤30 by decide) (show 2<4095 by decide) (fun i=>ks.getD i 0) (fun r=>if r=0 then (b0,o0) else (b1,o1))
   (vals:=[_,_]) (fun s hs=>⟨⟨c0,hc0,rfl,show 0<2 by decide⟩,⟨c1,hc1,rfl,show 1<2 by decide⟩,trivial⟩) (fun s hs=>⟨show 0<2 by decide,⟨⟨_,hp0,rfl⟩,trivial⟩,show 1<2 by decide,row_nums 28 0 0 (fun m hm=>by
    rw [Nat.zero_add,hs m (show m<28 from hm)]
    exact kget m hm),trivial⟩) (fun r l hl hr=>by cases hr) (fun r _=>(by show (if r=0 then (b0,o0) else (b1,o1)).1<_; split; exact lt0; exact lt1)) (fun r q _ _ h=>by cases h) ?_ ?_
  ·intro s hs hH i b hb
   obtain ⟨q2,f1,f2⟩:=law s hs hH
   refine decM_ok (show decM 96 [(1254,true),(1255,true)] i=some b from hb) q2 fun j c hj=>?_
   simp only [List.mem_cons,List.not_mem_nil,or_false,Prod.mk.injEq] at hj
   rcases hj with ⟨rfl,rfl⟩|⟨rfl,rfl⟩ <;> assumption
  ·intro s hs hH st' β' a' w' v hv hm hag hr hbe
   injection (show [lookup 83 st'.mem]=[some farRow] from hm) with hm
   exact ⟨_,rfl,_,outM_far hv,(newAt_far hr (l:=List.replicate 56 (.lit (.int .u8 0))) hm (show 2≤83 by decide) hbe rfl).of_eq (nsmul_far _)⟩
 | on b0 o0 c0 x0 y0 hv0 hc0 hp0 lx0 ly0 hon0 =>
  subst hv0
  have lt0:b0<w.heap.size:=World.block_lt_of_cell? w _ (hp0 0 4 rfl)
  have hon:=onN_on hon0
  let s0:Nums:=fun i=>if i=0 then x0 else if i=1 then y0 else ks.getD (i - 2) 0
  have sk:∀ s:Nums,(∀ i,i<30→s i=s0 i)→∀ m,m<28→s (2+m)=ks.getD m 0:=fun s hs m hm=>by
   rw [hs (2+m) (by omega)]
   show (if 2+m=0 then x0 else if 2+m=1 then y0 else ks.getD (2+m - 2) 0)=_
   rw [if_neg (by omega),if_neg (by omega),show 2+m - 2=m by omega]
  have law:∀ s:Nums,(∀ i,i<30→s i=s0 i)→Holds s 1250 exA6→RN s 1247 1248 1249 (nsmul (ofBytes ks) (ptN x0 y0))∧(∀ k,k≤55→s (92+51+20*k)=1)∧s 30=1∧s 1249<pq:=fun s hs hH=>by
   have e0:s 0=x0:=hs 0 (by decide)
   have e1:s 1=y0:=hs 1 (by decide)
   obtain ⟨q1,q2,q3,q4⟩:=lawM (L:=layA6) (p:=ptN x0 y0) (l':=newsE 15 [.fcst 1,.op 20 [.v 0,.v 1]]) hon (fun h=>by
    obtain ⟨g1,_⟩:=newsE_rest 15 (m:=32) h
    have g1':s 31=1:=(show s 31=1 % pq from g1).trans mod_one_pq
    show Rep (toTri pp (s 0,s 1,s 31)) _
    rw [e0,e1,g1']
    exact rep_one fine x0 y0) (fun m hm=>by
    rw [show layA6.nb+m=2+m from rfl,sk s hs m hm]
    exact (kget m hm).2) hH
   obtain ⟨_,g0,_⟩:=newsE_rest 15 (m:=32) q3
   have g0':s 30=onN (s 0) (s 1):=g0
   rw [e0,e1,hon0] at g0'
   have ek:((List.range 28).map fun i=>s (layA6.nb+i))=ks:=by
    rw [← range_getD hlen]
    apply List.map_congr_left
    intro i hi
    exact sk s hs i (List.mem_range.1 hi)
   rw [ek] at q1
   exact ⟨q1,q2,g0',q4⟩
  have hargs:∀ s:Nums,(∀ i,i<30→s i=s0 i)→ArgsOk s (fun r=>if r=0 then (b0,o0) else (b1,o1)) 2 [.one (.sl 0 0 57),.one (.sl 1 0 28)] [.slice (some ⟨b0,o0,none⟩) 57 c0,.slice (some ⟨b1,o1,none⟩) 28 c1]:=fun s hs=>⟨⟨c0,hc0,rfl,show 0<2 by decide⟩,⟨c1,hc1,rfl,show 1<2 by decide⟩,trivial⟩
  have hmem:∀ s:Nums,(∀ i,i<30→s i=s0 i)→MemOk s (fun r=>if r=0 then (b0,o0) else (b1,o1)) 2 w [(0,ptRow 0 1),(1,numsFrom .u8 2 28)]:=fun s hs=>⟨show 0<2 by decide,ptRow_row rfl hp0 (hs 0 (by decide)) (hs 1 (by decide)) lx0 ly0,show 1<2 by decide,row_nums 28 2 0 (fun m hm=>by
    rw [Nat.zero_add,sk s hs m hm]
    exact kget m hm),trivial⟩
  have hold:∀ r,r<2→((fun r=>if r=0 then (b0,o0) else (b1,o1)) r:Nat × Nat).1<w.heap.size:=fun r _=>(by show (if r=0 then (b0,o0) else (b1,o1)).1<_; split; exact lt0; exact lt1)
  by_cases hfar:nsmul (ofBytes ks) (ptN x0 y0)=.far
  ·refine calls_briefR (F:=fix46A true) (tabX_ok pointPrims_ok xm75_ok) run46B Try.func46 Try.ntmps46 rfl (by decide +kernel) (by decide +kernel) (by decide +kernel) (show 2≤30 by decide) (show 2<4095 by decide) s0 (fun r=>if r=0 then (b0,o0) else (b1,o1))
    (vals:=[_,_]) hargs hmem (fun r l hl hr=>by cases hr) hold (fun r q _ _ h=>by cases h) ?_ ?_
   ·intro s hs hH i b hb
    obtain ⟨q1,q2,q3,q4⟩:=law s hs hH.2.2
    obtain ⟨f1,f2⟩:=lawFar (e:=1247) q4 q1 hfar hH
    refine decM_ok (show decM 92 [(30,true),(1250,true),(1251,true)] i=some b from hb) q2 fun j c hj=>?_
    simp only [List.mem_cons,List.not_mem_nil,or_false,Prod.mk.injEq] at hj
    rcases hj with ⟨rfl,rfl⟩|⟨rfl,rfl⟩|⟨rfl,rfl⟩ <;> assumption
   ·intro s hs hH st' β' a' w' v hv hm hag hr hbe
    injection (show [lookup 77 st'.mem]=[some farRow] from hm) with hm
    exact ⟨_,rfl,_,outM_far hv,(newAt_far hr (l:=List.replicate 56 (.lit (.int .u8 0))) hm (show 2≤77 by decide) hbe rfl).of_eq hfar⟩
  ·refine calls_briefR (F:=fix46A false) (tabX_ok pointPrims_ok xm75_ok) run46A Try.func46 Try.ntmps46 rfl (by decide +kernel) (by decide +kernel) (by decide +kernel) (show 2≤30 by decide) (show 2<4095 by decide) s0 (fun r=>if r=0 then (b0,o0) else (b1,o1))
    (vals:=[_,_]) hargs hmem (fun r l hl hr=>by cases hr) hold (fun r q _ _ h=>by cases h) ?_ ?_
   ·intro s hs hH i b hb
    obtain ⟨q1,q2,q3,q4⟩:=law s hs hH.2.2.2.2.2.2.2.2
    obtain ⟨f1,f2,f3,f4⟩:=lawOn (e:=1247) q4 q1 hfar hH
    refine decM_ok (show decM 92 [(30,true),(1250,false),(1251,false)] i=some b from hb) q2 fun j c hj=>?_
    simp only [List.mem_cons,List.not_mem_nil,or_false,Prod.mk.injEq] at hj
    rcases hj with ⟨rfl,rfl⟩|⟨rfl,rfl⟩|⟨rfl,rfl⟩ <;> assumption
   ·intro s hs hH st' β' a' w' v hv hm hag hr hbe
    obtain ⟨q1,q2,q3,q4⟩:=law s hs hH.2.2.2.2.2.2.2.2
    obtain ⟨f1,f2,f3,f4⟩:=lawOn (e:=1247) q4 q1 hfar hH
    injection (show [lookup 77 st'.mem]=[some (ptRow 1255 1257)] from hm) with hm
    exact ⟨_,rfl,_,outM_on hv,(newAt_on hr hm (show 2≤77 by decide) hbe f3 f4 (xOf_lt _) (yOf_lt _) rfl).of_eq (on_eq hfar)⟩
def x46:X:=xMul
theorem x46_ok:XOk Try.prog 46 x46:=xMul_ok meets46
end P224
/- Arrays of bytes. -/
namespace P224
open Go Go.RowKit Go.Proofs
set_option maxRecDepth 100000
set_option linter.unusedVariables false
def arrV (ks:List Nat):Value:=.agg (ks.map fun (x:Nat)=>Value.int .u8 (x:Int)).toArray
def Is28 (ks:List Nat):Prop:=ks.length=28∧∀ x ∈ ks,x<256
theorem numsFrom_get {k:IntKind}:∀ {n i j:Nat} {a:A0},(numsFrom k i n)[j]?=some a→a=.num k (i+j)∧j<n
 | 0,i,j,a,h=>by simp [numsFrom] at h
 | n+1,i,0,a,h=>by
  cases (show some (A0.num k i)=some a from h)
  exact ⟨rfl,Nat.succ_pos _⟩
 | n+1,i,j+1,a,h=>by
  have h':(numsFrom k (i+1) n)[j]?=some a:=h
  obtain ⟨e,hj⟩:=numsFrom_get h'
  exact ⟨by rw [e,show i+1+j=i+(j+1) by omega],by omega⟩
theorem numsFrom_len (k:IntKind):∀ (n i:Nat),(numsFrom k i n).length=n
 | 0,_=>rfl
 | n+1,i=>by
  show (numsFrom k (i+1) n).length+1=n+1
  rw [numsFrom_len k n (i+1)]
theorem agg_rep {s:Nums} {β:Places} {n i:Nat} {ks:List Nat} (h:Is28 ks) (hs:∀ m,m<28→s (i+m)=ks.getD m 0):(AV.agg (numsFrom .u8 i 28)).rep s β n (arrV ks):=by
 refine ⟨_,rfl,by rw [List.length_map,h.1,numsFrom_len],fun j a x ha hx=>?_⟩
 obtain ⟨rfl,hj⟩:=numsFrom_get ha
 have hk:ks[j]?=some (ks.getD j 0):=by rw [List.getD_eq_getElem?_getD,List.getElem?_eq_getElem (by rw [h.1]; exact hj)]; rfl
 rw [List.getElem?_map,hk] at hx
 cases hx
 refine ⟨by rw [hs j hj],?_⟩
 rw [hs j hj]
 exact h.2 _ (List.mem_of_getElem? hk)
end P224
/- The laws' table, with the package's ScalarMult by contract. -/
namespace P224
open Go Go.RowKit Go.Proofs
set_option maxRecDepth 100000
set_option linter.unusedVariables false
noncomputable def xt0:List (Nat × X):=(45,x45) :: xw1
theorem xt0_ok:XsOk xt0:=xcons_ok x45_ok xw1_ok
noncomputable def xt1:List (Nat × X):=with1Z (with1Z xt0 43 Try.f43) 44 Try.f44
theorem xt1_ok:XsOk xt1:=with1Z_ok (with1Z_ok xt0_ok Try.func43 (by kernel_rfl)) Try.func44 (by kernel_rfl)
end P224
