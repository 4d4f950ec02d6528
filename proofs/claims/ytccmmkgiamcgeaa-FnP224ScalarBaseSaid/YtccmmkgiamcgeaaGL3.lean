/- Law ScalarBase. PRINTED BY A PROGRAM OF MY OWN (gen/mkL3.py). -/
import Derived.Test.YtccmmkgiamcgeaaGW92
set_option linter.all false
namespace P224
open Go Go.RowKit Go.Proofs
set_option maxRecDepth 100000
set_option linter.unusedVariables false
def ex3f:List Ex:=[
.op 19 [.c 0,.c 0],
.op 25 [.v 30,.v 31,.v 35],
.op 2 (vsF 0),
.op 20 [.v 30,.v 31],
.op 4 [.v 31,.c pq],
.op 4 [.v 30,.c pq],
.fcst gyN,
.fcst gxN,
.op 25 [.c gxN,.c gyN,.v 28],
.op 2 (vsF 0)]
def dec3f:List (Nat × Bool):=[(29,true),(32,true),(33,true),(34,true),(36,true)]
theorem run3f:briefR (tabZ xt3) Try.f3 [] (runF (tabZ xt3) (fixN 24 0 dec3f []) 3000 Try.f3 (startSt [.agg (numsFrom .u8 0 28)] [] 28 0))=some ⟨.ret,38,ex3f,[],[.one (.bl 37)],[]⟩:=by kernel_rfl
def ex3n:List Ex:=[
.op 19 ((Wd.c 4 :: (bs28 30 ++ bs28 31)) ++ (Wd.c 4 :: (bs28 39 ++ bs28 40))),
.op 4 [.v 40,.c pq],
.op 4 [.v 39,.c pq],
.op 27 [.v 32,.v 33,.v 37],
.op 26 [.v 32,.v 33,.v 37],
.op 25 [.v 32,.v 33,.v 37],
.op 2 (vsF 0),
.op 20 [.v 32,.v 33],
.op 4 [.v 33,.c pq],
.op 4 [.v 32,.c pq],
.fcst gyN,
.fcst gxN,
.op 27 [.c gxN,.c gyN,.v 28],
.op 26 [.c gxN,.c gyN,.v 28],
.op 25 [.c gxN,.c gyN,.v 28],
.op 2 (vsF 0)]
def dec3n:List (Nat × Bool):=[(29,false),(34,true),(35,true),(36,true),(38,false),(41,true),(42,true)]
theorem run3n:briefR (tabZ xt3) Try.f3 [] (runF (tabZ xt3) (fixN 24 0 dec3n []) 3000 Try.f3 (startSt [.agg (numsFrom .u8 0 28)] [] 28 0))=some ⟨.ret,44,ex3n,[],[.one (.bl 43)],[]⟩:=by kernel_rfl
theorem law3f {s:Nums} {K:Nat} (qK:ofBytes ((List.range 28).map fun i=>s (0+i))=K) (f1:farOf (mulN gxN gyN K)=1) (h:Holds s 38 ex3f):s 29=1∧s 32=1∧s 33=1∧s 34=1∧s 36=1∧s 37=1:=by
 obtain ⟨h37,h36,h35,h34,h33,h32,h31,h30,h29,h28,_⟩:=h
 have q28:s 28=K:=(show s 28=ofBytes ((List.range 28).map fun i=>s (0+i)) from h28).trans qK
 have q29:s 29=1:=((show s 29=farOf (mulN gxN gyN (s 28)) from h29).trans (by rw [q28])).trans f1
 have q30:s 30=gxN:=(show s 30=gxN % pq from h30).trans gx_mod
 have q31:s 31=gyN:=(show s 31=gyN % pq from h31).trans gy_mod
 have q32:s 32=1:=(show s 32=if s 30<pq then 1 else 0 from h32).trans (if_pos (by rw [q30]; exact gx_lt))
 have q33:s 33=1:=(show s 33=if s 31<pq then 1 else 0 from h33).trans (if_pos (by rw [q31]; exact gy_lt))
 have q34:s 34=1:=((show s 34=onN (s 30) (s 31) from h34).trans (by rw [q30,q31])).trans gg_onN
 have q35:s 35=K:=(show s 35=ofBytes ((List.range 28).map fun i=>s (0+i)) from h35).trans qK
 have q36:s 36=1:=((show s 36=farOf (mulN (s 30) (s 31) (s 35)) from h36).trans (by rw [q30,q31,q35])).trans f1
 have q37:s 37=1:=(show s 37=opVal 19 ([0] ++ [0]) from h37).trans (opVal_19 [0] [0] rfl)
 exact ⟨q29,q32,q33,q34,q36,q37⟩
theorem law3n {s:Nums} {K X Y:Nat} (qK:ofBytes ((List.range 28).map fun i=>s (0+i))=K) (f1:farOf (mulN gxN gyN K)=0) (fx:xOf (mulN gxN gyN K)=X) (fy:yOf (mulN gxN gyN K)=Y) (lX:X<pq) (lY:Y<pq) (h:Holds s 44 ex3n):s 29=0∧s 34=1∧s 35=1∧s 36=1∧s 38=0∧s 41=1∧s 42=1∧s 43=1:=by
 obtain ⟨h43,h42,h41,h40,h39,h38,h37,h36,h35,h34,h33,h32,h31,h30,h29,h28,_⟩:=h
 have q28:s 28=K:=(show s 28=ofBytes ((List.range 28).map fun i=>s (0+i)) from h28).trans qK
 have q29:s 29=0:=((show s 29=farOf (mulN gxN gyN (s 28)) from h29).trans (by rw [q28])).trans f1
 have q30:s 30=X:=((show s 30=xOf (mulN gxN gyN (s 28)) from h30).trans (by rw [q28])).trans fx
 have q31:s 31=Y:=((show s 31=yOf (mulN gxN gyN (s 28)) from h31).trans (by rw [q28])).trans fy
 have q32:s 32=gxN:=(show s 32=gxN % pq from h32).trans gx_mod
 have q33:s 33=gyN:=(show s 33=gyN % pq from h33).trans gy_mod
 have q34:s 34=1:=(show s 34=if s 32<pq then 1 else 0 from h34).trans (if_pos (by rw [q32]; exact gx_lt))
 have q35:s 35=1:=(show s 35=if s 33<pq then 1 else 0 from h35).trans (if_pos (by rw [q33]; exact gy_lt))
 have q36:s 36=1:=((show s 36=onN (s 32) (s 33) from h36).trans (by rw [q32,q33])).trans gg_onN
 have q37:s 37=K:=(show s 37=ofBytes ((List.range 28).map fun i=>s (0+i)) from h37).trans qK
 have q38:s 38=0:=((show s 38=farOf (mulN (s 32) (s 33) (s 37)) from h38).trans (by rw [q32,q33,q37])).trans f1
 have q39:s 39=X:=((show s 39=xOf (mulN (s 32) (s 33) (s 37)) from h39).trans (by rw [q32,q33,q37])).trans fx
 have q40:s 40=Y:=((show s 40=yOf (mulN (s 32) (s 33) (s 37)) from h40).trans (by rw [q32,q33,q37])).trans fy
 have q41:s 41=1:=(show s 41=if s 39<pq then 1 else 0 from h41).trans (if_pos (by rw [q39]; exact lX))
 have q42:s 42=1:=(show s 42=if s 40<pq then 1 else 0 from h42).trans (if_pos (by rw [q40]; exact lY))
 have q43:s 43=1:=same_ptG h43 (by rw [q30,q39]) (by rw [q31,q40])
 exact ⟨q29,q34,q35,q36,q38,q41,q42,q43⟩
theorem ntmps3:Try.f3.ntmps=24:=by kernel_rfl
theorem law3_all {w:World} {k0:List Nat} (hk0:Is28 k0):Law 3 w [arrV k0]:=by
 have args:∀ s:Nums,(∀ i,i<28→s i=k0.getD i 0)→ArgsOk s (fun _=>(0,0)) 0 [.agg (numsFrom .u8 0 28)] [arrV k0]:=fun s hs=>⟨agg_rep hk0 fun m hm=>by rw [Nat.zero_add]; exact hs m hm,trivial⟩
 have qKs:∀ s:Nums,(∀ i,i<28→s i=k0.getD i 0)→ofBytes ((List.range 28).map fun i=>s (0+i))=ofBytes k0:=fun s hs=>by
  rw [← range_getD hk0.1]
  congr 1
  apply List.map_congr_left
  intro i hi
  rw [Nat.zero_add]
  exact hs i (List.mem_range.1 hi)
 rcases mul_casesG gg_onN (ofBytes k0) with ⟨f1,_⟩|⟨X,Y,f1,fx,fy,lX,lY,on1,_⟩
 ·refine calls_briefR (F:=fixN 24 0 dec3f []) (tabZ_ok xt3_ok) run3f Try.func3 ntmps3 rfl (by decide +kernel) (by decide +kernel) (by decide +kernel) (show 1≤24 by decide) (show 1<4095 by decide) (fun i=>k0.getD i 0) (fun _=>(0,0))
   (vals:=[arrV k0]) args (fun s hs=>trivial) (fun r l hl hr=>by cases hr) (fun r h=>absurd h (Nat.not_lt_zero r)) (fun r q _ _ h=>by cases h) ?_ ?_
  ·intro s hs hH i bb hb
   obtain ⟨a1,a2,a3,a4,a5,a6⟩:=law3f (qKs s hs) f1 hH
   have:=findT_mem (show findT i dec3f=some bb from hb)
   simp only [dec3f,List.mem_cons,List.not_mem_nil,or_false,Prod.mk.injEq] at this
   rcases this with ⟨rfl,rfl⟩|⟨rfl,rfl⟩|⟨rfl,rfl⟩|⟨rfl,rfl⟩|⟨rfl,rfl⟩ <;> assumption
  ·intro s hs hH st' β' a' w' v hv hm hag hr hbe
   obtain ⟨a1,a2,a3,a4,a5,a6⟩:=law3f (qKs s hs) f1 hH
   have hv':v=.bool (s 37 == 1):=hv.1
   rw [a6] at hv'
   subst hv'
   exact ⟨rfl,hbe⟩
 ·refine calls_briefR (F:=fixN 24 0 dec3n []) (tabZ_ok xt3_ok) run3n Try.func3 ntmps3 rfl (by decide +kernel) (by decide +kernel) (by decide +kernel) (show 1≤24 by decide) (show 1<4095 by decide) (fun i=>k0.getD i 0) (fun _=>(0,0))
   (vals:=[arrV k0]) args (fun s hs=>trivial) (fun r l hl hr=>by cases hr) (fun r h=>absurd h (Nat.not_lt_zero r)) (fun r q _ _ h=>by cases h) ?_ ?_
  ·intro s hs hH i bb hb
   obtain ⟨a1,a2,a3,a4,a5,a6,a7,a8⟩:=law3n (qKs s hs) f1 fx fy lX lY hH
   have:=findT_mem (show findT i dec3n=some bb from hb)
   simp only [dec3n,List.mem_cons,List.not_mem_nil,or_false,Prod.mk.injEq] at this
   rcases this with ⟨rfl,rfl⟩|⟨rfl,rfl⟩|⟨rfl,rfl⟩|⟨rfl,rfl⟩|⟨rfl,rfl⟩|⟨rfl,rfl⟩|⟨rfl,rfl⟩ <;> assumption
  ·intro s hs hH st' β' a' w' v hv hm hag hr hbe
   obtain ⟨a1,a2,a3,a4,a5,a6,a7,a8⟩:=law3n (qKs s hs) f1 fx fy lX lY hH
   have hv':v=.bool (s 43 == 1):=hv.1
   rw [a8] at hv'
   subst hv'
   exact ⟨rfl,hbe⟩
end P224
