/- The package's ScalarMult of bytes: its contract. -/
import Derived.Test.YtccmmkgiamcgeaaGV12
import Derived.Test.YtccmmkgiamcgeaaGV6
set_option linter.all false
namespace P224
open Go Go.RowKit Go.Proofs
set_option maxRecDepth 100000
set_option linter.unusedVariables false
theorem fifE_rest {L:Lay} {s:Nums} {l:List Ex}:∀ k,Holds s (L.tb+6*k) (fifE L l k)→Holds s L.tb l
 | 0,h=>h
 | k+1,h=>by
  have e:L.tb+6*(k+1)=L.tb+6*k+3+3:=by omega
  rw [e] at h
  obtain ⟨_,_,_,h⟩:=h
  obtain ⟨_,_,_,h⟩:=h
  exact fifE_rest k h
theorem newsE_rest {s:Nums} {l:List Ex} {m:Nat}:∀ n,Holds s (m+4*n) (newsE n l)→Holds s m l
 | 0,h=>h
 | n+1,h=>by
  have e:m+4*(n+1)=m+4*n+4:=by omega
  rw [e] at h
  obtain ⟨_,_,_,_,h⟩:=h
  exact newsE_rest n h
theorem newE_far {s:Nums} {l:List Ex} {m:Nat} (h:Holds s (m+4) (newsE 1 l)):RN s m (m+2) (m+3) .far:=by
 obtain ⟨h3,h2,h1,h0,_⟩:=h
 have e3:s (m+3)=0:=(show s (m+3)=0 % pq from h3).trans (Nat.zero_mod _)
 have e2:s (m+2)=1:=(show s (m+2)=1 % pq from h2).trans mod_one_pq
 have e0:s m=0:=(show s m=0 % pq from h0).trans (Nat.zero_mod _)
 unfold RN
 rw [e3,e2,e0]
 exact rep_zero fine
theorem lawM {L:Lay} {s:Nums} {l':List Ex} {p:Pt pp} (hp:OnC bb p) (hpn:Holds s L.tb l'→RN s L.a L.b L.c p) (hs:∀ m,m<28→s (L.nb+m)<256) (hH:Holds s (L.tb+1158) (hsE L (newsE 2 (fifE L l' 7)) 55)) :
  RN s (L.tb+1155) (L.tb+1156) (L.tb+1157) (nsmul (ofBytes ((List.range 28).map fun i=>s (L.nb+i))) p)∧(∀ k,k≤55→s (L.tb+51+20*k)=1)∧Holds s L.tb l'∧s (L.tb+1157)<pq:=by
 have hr:=hsE_rest 55 hH
 have hz:RN s (L.tb+46) (L.tb+48) (L.tb+49) .far:=newE_far (m:=L.tb+46) hr
 have hf:Holds s (L.tb+42) (fifE L l' 7):=newsE_rest 2 (m:=L.tb+42) hr
 have hl:Holds s L.tb l':=fifE_rest 7 hf
 obtain ⟨q1,q2,_⟩:=hs_all hp (hpn hl) hs (fun _=>⟨hz,hf⟩) hH
 refine ⟨q1,q2,hl,?_⟩
 have h0:s (L.tb+1157)=szN pq bq (s (L.tb+67+20*54)) (s (L.tb+68+20*54)) (s (L.tb+69+20*54)) (s (L.tb+70+20*54+2)) (s (L.tb+70+20*54+3)) (s (L.tb+70+20*54+4)):=hH.1
 rw [h0]
 exact szN_lt _ _ _ _ _ _
theorem lawFar {s:Nums} {e:Nat} {l:List Ex} {p:Pt pp} (hZ:s (e+2)<pq) (h:RN s e (e+1) (e+2) p) (hp:p=.far) (hH:Holds s (e+5) (farT (e+3) ++ l)):s (e+3)=1∧s (e+4)=1:=by
 obtain ⟨h1,h0,_⟩:=hH
 have e0:s (e+3)=if s (e+2)=0 then 1 else 0:=h0
 have e1:s (e+4)=if s (e+3)=1 then 1 else 0:=h1
 rcases rep_aff hZ h with ⟨_,_,z⟩|⟨f,_⟩
 ·rw [if_pos z] at e0
  rw [if_pos e0] at e1
  exact ⟨e0,e1⟩
 ·rw [hp] at f; cases f
theorem lawOn {s:Nums} {e:Nat} {l:List Ex} {p:Pt pp} (hZ:s (e+2)<pq) (h:RN s e (e+1) (e+2) p) (hp:p≠.far) (hH:Holds s (e+11) (onT (e+3) ++ l)):s (e+3)=0∧s (e+4)=0∧s (e+8)=xOf p∧s (e+10)=yOf p:=by
 obtain ⟨h7,_,h5,_,h3,_,h1,h0,_⟩:=hH
 have e0:s (e+3)=if s (e+2)=0 then 1 else 0:=h0
 have e1:s (e+4)=if s (e+3)=1 then 1 else 0:=h1
 have e3:s (e+6)=finvq (s (e+2)):=h3
 have e5:s (e+8)=s e*s (e+6) % pq:=h5
 have e7:s (e+10)=s (e+1)*s (e+6) % pq:=h7
 rcases rep_aff hZ h with ⟨_,f,_⟩|⟨_,_,z,f1,f2⟩
 ·exact absurd f hp
 ·rw [if_neg z] at e0
  rw [if_neg (by rw [e0]; decide)] at e1
  rw [e3] at e5 e7
  exact ⟨e0,e1,e5.trans f1,e7.trans f2⟩
theorem outM_far {s:Nums} {β:Places} {n R:Nat} {v:Value} (h:(resAV [.one (.slc R 0 1 57),.one (.lit (.bool true)),.one (.lit (.bool true))]).rep s β n v):v=.tuple #[.slice (some (at_ β R 0)) 1 57,.bool true,.bool true]:=by
 obtain ⟨vs,rfl,hl⟩:=h
 match vs,hl with
 | [a,b,c],⟨ha,hb,hc,_⟩ =>
  have hb':b=.bool true:=hb
  have hc':c=.bool true:=hc
  rw [ha.1,hb',hc']
theorem outM_on {s:Nums} {β:Places} {n R:Nat} {v:Value} (h:(resAV [.one (.slc R 0 57 57),.one (.lit (.bool true)),.one (.lit (.bool true))]).rep s β n v):v=.tuple #[.slice (some (at_ β R 0)) 57 57,.bool true,.bool true]:=by
 obtain ⟨vs,rfl,hl⟩:=h
 match vs,hl with
 | [a,b,c],⟨ha,hb,hc,_⟩ =>
  have hb':b=.bool true:=hb
  have hc':c=.bool true:=hc
  rw [ha.1,hb',hc']
theorem range_getD {ks:List Nat} (h:ks.length=28):((List.range 28).map fun i=>ks.getD i 0)=ks:=by
 apply List.ext_getElem
 ·rw [List.length_map,List.length_range,h]
 ·intro i h1 h2
  rw [List.getElem_map,List.getElem_range,List.getD_eq_getElem?_getD,List.getElem?_eq_getElem h2]
  rfl
theorem meets45 (w:World) (v1 v2:Value) (p:Pt pp) (ks:List Nat) (h1:PtAt w v1 p) (h2:KAt w v2 ks):Meets Try.prog 45 #[v1,v2] w (OutMul w (nsmul (ofBytes ks) p)):=by
 refine meets_of_calls Try.func45 (by kernel_rfl) (by kernel_rfl) ?_
 obtain ⟨b1,o1,c1,hv1,hc1,hlen,hk⟩:=h2
 subst hv1
 have kget:∀ m,m<28→w.cell? ⟨b1,o1+m,none⟩=some (.int .u8 ((ks.getD m 0:Nat):Int))∧ks.getD m 0<256:=fun m hm=>by
  have hx:ks[m]?=some (ks.getD m 0):=by rw [List.getD_eq_getElem?_getD,List.getElem?_eq_getElem (by omega)]; rfl
  exact hk m _ hx
 have lt1:b1<w.heap.size:=World.block_lt_of_cell? w _ (kget 0 (by decide)).1
 cases h1 with
 | far b0 o0 c0 hv0 hc0 hp0 =>
  subst hv0
  have lt0:b0<w.heap.size:=World.block_lt_of_cell? w _ hp0
  have law:∀ s:Nums,(∀ i,i<28→s i=ks.getD i 0)→Holds s 1260 (farT 1258 ++ exF)→(∀ k,k≤55→s (100+51+20*k)=1)∧s 1258=1∧s 1259=1:=fun s hs hH=>by
   have hM:Holds s (layF.tb+1158) (hsE layF (newsE 2 (fifE layF (newsE 18 []) 7)) 55):=hH.2.2
   obtain ⟨q1,q2,_,q4⟩:=lawM (L:=layF) (p:=.far) trivial (fun h=>newE_far (m:=32) (l:=newsE 1 []) (newsE_rest 16 (m:=36) h)) (fun m hm=>by
    show s (0+m)<256
    rw [Nat.zero_add,hs m hm]
    exact (kget m hm).2) hM
   obtain ⟨f1,f2⟩:=lawFar (e:=1255) q4 q1 (nsmul_far _) hH
   exact ⟨q2,f1,f2⟩
  refine calls_briefR (F:=fix45F) (tabX_ok pointPrims_ok xm75_ok) run45F Try.func45 Try.ntmps45 rfl (by decide +kernel) (by decide +kernel) (by decide +kernel) (show 2≤32 by decide) (show 2<4095 by decide) (fun i=>ks.getD i 0) (fun r=>if r=0 then (b0,o0) else (b1,o1))
   (vals:=[_,_]) (fun s hs=>⟨⟨c0,hc0,rfl,show 0<2 by decide⟩,⟨c1,hc1,rfl,show 1<2 by decide⟩,trivial⟩) (fun s hs=>⟨show 0<2 by decide,⟨⟨_,hp0,rfl⟩,trivial⟩,show 1<2 by decide,row_nums 28 0 0 (fun m hm=>by
    rw [Nat.zero_add,hs m (show m<28 from hm)]
    exact kget m hm),trivial⟩) (fun r l hl hr=>by cases hr) (fun r _=>(by show (if r=0 then (b0,o0) else (b1,o1)).1<_; split; exact lt0; exact lt1)) (fun r q _ _ h=>by cases h) ?_ ?_
  ·intro s hs hH i b hb
   obtain ⟨q2,f1,f2⟩:=law s hs hH
   refine decM_ok (show decM 100 [(1258,true),(1259,true)] i=some b from hb) q2 fun j c hj=>?_
   simp only [List.mem_cons,List.not_mem_nil,or_false,Prod.mk.injEq] at hj
   rcases hj with ⟨rfl,rfl⟩|⟨rfl,rfl⟩ <;> assumption
  ·intro s hs hH st' β' a' w' v hv hm hag hr hbe
   injection (show [lookup 87 st'.mem]=[some farRow] from hm) with hm
   exact ⟨_,rfl,_,outM_far hv,(newAt_far hr (l:=List.replicate 56 (.lit (.int .u8 0))) hm (show 2≤87 by decide) hbe rfl).of_eq (nsmul_far _)⟩
 | on b0 o0 c0 x0 y0 hv0 hc0 hp0 lx0 ly0 hon0 =>
  subst hv0
  have lt0:b0<w.heap.size:=World.block_lt_of_cell? w _ (hp0 0 4 rfl)
  have hon:=onN_on hon0
  let s0:Nums:=fun i=>if i=0 then x0 else if i=1 then y0 else ks.getD (i - 2) 0
  have sk:∀ s:Nums,(∀ i,i<30→s i=s0 i)→∀ m,m<28→s (2+m)=ks.getD m 0:=fun s hs m hm=>by
   rw [hs (2+m) (by omega)]
   show (if 2+m=0 then x0 else if 2+m=1 then y0 else ks.getD (2+m - 2) 0)=_
   rw [if_neg (by omega),if_neg (by omega),show 2+m - 2=m by omega]
  have law:∀ s:Nums,(∀ i,i<30→s i=s0 i)→Holds s 1254 exA→RN s 1251 1252 1253 (nsmul (ofBytes ks) (ptN x0 y0))∧(∀ k,k≤55→s (96+51+20*k)=1)∧s 30=1∧s 1253<pq:=fun s hs hH=>by
   have e0:s 0=x0:=hs 0 (by decide)
   have e1:s 1=y0:=hs 1 (by decide)
   obtain ⟨q1,q2,q3,q4⟩:=lawM (L:=layA) (p:=ptN x0 y0) (l':=newsE 16 [.fcst 1,.op 20 [.v 0,.v 1]]) hon (fun h=>by
    obtain ⟨g1,_⟩:=newsE_rest 16 (m:=32) h
    have g1':s 31=1:=(show s 31=1 % pq from g1).trans mod_one_pq
    show Rep (toTri pp (s 0,s 1,s 31)) _
    rw [e0,e1,g1']
    exact rep_one fine x0 y0) (fun m hm=>by
    rw [show layA.nb+m=2+m from rfl,sk s hs m hm]
    exact (kget m hm).2) hH
   obtain ⟨_,g0,_⟩:=newsE_rest 16 (m:=32) q3
   have g0':s 30=onN (s 0) (s 1):=g0
   rw [e0,e1,hon0] at g0'
   have ek:((List.range 28).map fun i=>s (layA.nb+i))=ks:=by
    rw [← range_getD hlen]
    apply List.map_congr_left
    intro i hi
    exact sk s hs i (List.mem_range.1 hi)
   rw [ek] at q1
   exact ⟨q1,q2,g0',q4⟩
  have hargs:∀ s:Nums,(∀ i,i<30→s i=s0 i)→ArgsOk s (fun r=>if r=0 then (b0,o0) else (b1,o1)) 2 [.one (.sl 0 0 57),.one (.sl 1 0 28)] [.slice (some ⟨b0,o0,none⟩) 57 c0,.slice (some ⟨b1,o1,none⟩) 28 c1]:=fun s hs=>⟨⟨c0,hc0,rfl,show 0<2 by decide⟩,⟨c1,hc1,rfl,show 1<2 by decide⟩,trivial⟩
  have hmem:∀ s:Nums,(∀ i,i<30→s i=s0 i)→MemOk s (fun r=>if r=0 then (b0,o0) else (b1,o1)) 2 w [(0,ptRow 0 1),(1,numsFrom .u8 2 28)]:=fun s hs=>⟨show 0<2 by decide,ptRow_row rfl hp0 (hs 0 (by decide)) (hs 1 (by decide)) lx0 ly0,show 1<2 by decide,row_nums 28 2 0 (fun m hm=>by
    rw [Nat.zero_add,sk s hs m hm]
    exact kget m hm),trivial⟩
  have hold:∀ r,r<2→((fun r=>if r=0 then (b0,o0) else (b1,o1)) r:Nat × Nat).1<w.heap.size:=fun r _=>(by show (if r=0 then (b0,o0) else (b1,o1)).1<_; split; exact lt0; exact lt1)
  by_cases hfar:nsmul (ofBytes ks) (ptN x0 y0)=.far
  ·refine calls_briefR (F:=fix45A true) (tabX_ok pointPrims_ok xm75_ok) run45B Try.func45 Try.ntmps45 rfl (by decide +kernel) (by decide +kernel) (by decide +kernel) (show 2≤32 by decide) (show 2<4095 by decide) s0 (fun r=>if r=0 then (b0,o0) else (b1,o1))
    (vals:=[_,_]) hargs hmem (fun r l hl hr=>by cases hr) hold (fun r q _ _ h=>by cases h) ?_ ?_
   ·intro s hs hH i b hb
    obtain ⟨q1,q2,q3,q4⟩:=law s hs hH.2.2
    obtain ⟨f1,f2⟩:=lawFar (e:=1251) q4 q1 hfar hH
    refine decM_ok (show decM 96 [(30,true),(1254,true),(1255,true)] i=some b from hb) q2 fun j c hj=>?_
    simp only [List.mem_cons,List.not_mem_nil,or_false,Prod.mk.injEq] at hj
    rcases hj with ⟨rfl,rfl⟩|⟨rfl,rfl⟩|⟨rfl,rfl⟩ <;> assumption
   ·intro s hs hH st' β' a' w' v hv hm hag hr hbe
    injection (show [lookup 81 st'.mem]=[some farRow] from hm) with hm
    exact ⟨_,rfl,_,outM_far hv,(newAt_far hr (l:=List.replicate 56 (.lit (.int .u8 0))) hm (show 2≤81 by decide) hbe rfl).of_eq hfar⟩
  ·refine calls_briefR (F:=fix45A false) (tabX_ok pointPrims_ok xm75_ok) run45A Try.func45 Try.ntmps45 rfl (by decide +kernel) (by decide +kernel) (by decide +kernel) (show 2≤32 by decide) (show 2<4095 by decide) s0 (fun r=>if r=0 then (b0,o0) else (b1,o1))
    (vals:=[_,_]) hargs hmem (fun r l hl hr=>by cases hr) hold (fun r q _ _ h=>by cases h) ?_ ?_
   ·intro s hs hH i b hb
    obtain ⟨q1,q2,q3,q4⟩:=law s hs hH.2.2.2.2.2.2.2.2
    obtain ⟨f1,f2,f3,f4⟩:=lawOn (e:=1251) q4 q1 hfar hH
    refine decM_ok (show decM 96 [(30,true),(1254,false),(1255,false)] i=some b from hb) q2 fun j c hj=>?_
    simp only [List.mem_cons,List.not_mem_nil,or_false,Prod.mk.injEq] at hj
    rcases hj with ⟨rfl,rfl⟩|⟨rfl,rfl⟩|⟨rfl,rfl⟩ <;> assumption
   ·intro s hs hH st' β' a' w' v hv hm hag hr hbe
    obtain ⟨q1,q2,q3,q4⟩:=law s hs hH.2.2.2.2.2.2.2.2
    obtain ⟨f1,f2,f3,f4⟩:=lawOn (e:=1251) q4 q1 hfar hH
    injection (show [lookup 81 st'.mem]=[some (ptRow 1259 1261)] from hm) with hm
    exact ⟨_,rfl,_,outM_on hv,(newAt_on hr hm (show 2≤81 by decide) hbe f3 f4 (xOf_lt _) (yOf_lt _) rfl).of_eq (on_eq hfar)⟩
def x45:X:=xMul
theorem x45_ok:XOk Try.prog 45 x45:=xMul_ok meets45
end P224
