/- Law BaseIsMult: its runs. PRINTED BY A PROGRAM OF MY OWN (gen/mkL19.py). -/
import Derived.Test.YtccmmkgiamcgeaaGW92
set_option linter.all false
namespace P224
open Go Go.RowKit Go.Proofs
set_option maxRecDepth 100000
set_option linter.unusedVariables false
def ex19f:List Ex:=[
.op 19 [.c 0,.c 0],
.op 25 [.v 44,.v 46,.v 48],
.op 2 (vsF 0),
.op 20 [.v 44,.v 46],
.fmul (.v 36) (.v 42),
.fcst 0,
.fmul (.v 34) (.v 42),
.fcst 0,
.finv (.v 38),
.fcst 0,
.feq (.v 39) (.c 1),
.feq (.v 38) (.c 0),
.fcst 1,
.op 4 [.v 36,.c pq],
.op 2 (gyB.map .c),
.op 4 [.v 34,.c pq],
.op 2 (gxB.map .c),
.fcst 0,
.fcst 1,
.fcst 0,
.fcst 0,
.op 25 [.c gxN,.c gyN,.v 28],
.op 2 (vsF 0)]
def dec19f:List (Nat × Bool):=[(29,true),(35,true),(37,true),(39,false),(40,false),(47,true),(49,true),(50,true)]
theorem run19f:briefR (tabZ xt19) Try.f19 [] (runF (tabZ xt19) (fixN 18 0 dec19f []) 3000 Try.f19 (startSt [.agg (numsFrom .u8 0 28)] [] 28 0))=some ⟨.ret,51,ex19f,[],[.one (.lit (.bool true))],[]⟩:=by kernel_rfl
def ex19n:List Ex:=[
.feq (.v 55) (.c 0),
.op 20 [.v 30,.v 31],
.op 19 ((Wd.c 4 :: (bs28 30 ++ bs28 31)) ++ (Wd.c 4 :: (bs28 52 ++ bs28 53))),
.op 27 [.v 46,.v 48,.v 50],
.op 26 [.v 46,.v 48,.v 50],
.op 25 [.v 46,.v 48,.v 50],
.op 2 (vsF 0),
.op 20 [.v 46,.v 48],
.fmul (.v 38) (.v 44),
.fcst 0,
.fmul (.v 36) (.v 44),
.fcst 0,
.finv (.v 40),
.fcst 0,
.feq (.v 41) (.c 1),
.feq (.v 40) (.c 0),
.fcst 1,
.op 4 [.v 38,.c pq],
.op 2 (gyB.map .c),
.op 4 [.v 36,.c pq],
.op 2 (gxB.map .c),
.fcst 0,
.fcst 1,
.fcst 0,
.fcst 0,
.op 27 [.c gxN,.c gyN,.v 28],
.op 26 [.c gxN,.c gyN,.v 28],
.op 25 [.c gxN,.c gyN,.v 28],
.op 2 (vsF 0)]
def dec19n:List (Nat × Bool):=[(29,false),(37,true),(39,true),(41,false),(42,false),(49,true),(51,false),(54,true),(55,true),(56,false)]
theorem run19n:briefR (tabZ xt19) Try.f19 [] (runF (tabZ xt19) (fixN 18 0 dec19n []) 3000 Try.f19 (startSt [.agg (numsFrom .u8 0 28)] [] 28 0))=some ⟨.ret,57,ex19n,[],[.one (.lit (.bool true))],[]⟩:=by kernel_rfl
end P224
/- Law BaseIsMult: its numbers. PRINTED BY A PROGRAM OF MY OWN (gen/mkL19b.py). -/
namespace P224
open Go Go.RowKit Go.Proofs
set_option maxRecDepth 100000
set_option linter.unusedVariables false
theorem law19f {s:Nums} {K:Nat} (qK:ofBytes ((List.range 28).map fun i=>s (0+i))=K) (f1:farOf (mulN gxN gyN K)=1) (h:Holds s 51 ex19f):s 29=1∧s 35=1∧s 37=1∧s 39=0∧s 40=0∧s 47=1∧s 49=1∧s 50=1:=by
 obtain ⟨h50,h49,h48,h47,h46,h45,h44,h43,h42,h41,h40,h39,h38,h37,h36,h35,h34,h33,h32,h31,h30,h29,h28,_⟩:=h
 have q28:s 28=K:=(show s 28=ofBytes ((List.range 28).map fun i=>s (0+i)) from h28).trans qK
 have q29:s 29=1:=((show s 29=farOf (mulN gxN gyN (s 28)) from h29).trans (by rw [q28])).trans f1
 have q34:s 34=gxN:=(show s 34=ofBytes gxB from h34).trans gxB_val
 have q35:s 35=1:=(show s 35=if s 34<pq then 1 else 0 from h35).trans (if_pos (by rw [q34]; exact gx_lt))
 have q36:s 36=gyN:=(show s 36=ofBytes gyB from h36).trans gyB_val
 have q37:s 37=1:=(show s 37=if s 36<pq then 1 else 0 from h37).trans (if_pos (by rw [q36]; exact gy_lt))
 have q38:s 38=1:=(show s 38=1 % pq from h38).trans mod_one_pq
 have q39:s 39=0:=(show s 39=if s 38=0 then 1 else 0 from h39).trans (if_neg (by rw [q38]; decide))
 have q40:s 40=0:=(show s 40=if s 39=1 then 1 else 0 from h40).trans (if_neg (by rw [q39]; decide))
 have q42:s 42=1:=(show s 42=finvq (s 38) from h42).trans (by rw [q38]; exact finv1)
 have q44:s 44=gxN:=(show s 44=s 34*s 42 % pq from h44).trans (by rw [q34,q42]; exact gx_mul1)
 have q46:s 46=gyN:=(show s 46=s 36*s 42 % pq from h46).trans (by rw [q36,q42]; exact gy_mul1)
 have q47:s 47=1:=((show s 47=onN (s 44) (s 46) from h47).trans (by rw [q44,q46])).trans gg_onN
 have q48:s 48=K:=(show s 48=ofBytes ((List.range 28).map fun i=>s (0+i)) from h48).trans qK
 have q49:s 49=1:=((show s 49=farOf (mulN (s 44) (s 46) (s 48)) from h49).trans (by rw [q44,q46,q48])).trans f1
 have q50:s 50=1:=(show s 50=opVal 19 ([0] ++ [0]) from h50).trans (opVal_19 [0] [0] rfl)
 exact ⟨q29,q35,q37,q39,q40,q47,q49,q50⟩
theorem law19n {s:Nums} {K X Y:Nat} (qK:ofBytes ((List.range 28).map fun i=>s (0+i))=K) (f1:farOf (mulN gxN gyN K)=0) (fx:xOf (mulN gxN gyN K)=X) (fy:yOf (mulN gxN gyN K)=Y) (on1:onN X Y=1) (h:Holds s 57 ex19n):s 29=0∧s 37=1∧s 39=1∧s 41=0∧s 42=0∧s 49=1∧s 51=0∧s 54=1∧s 55=1∧s 56=0:=by
 obtain ⟨h56,h55,h54,h53,h52,h51,h50,h49,h48,h47,h46,h45,h44,h43,h42,h41,h40,h39,h38,h37,h36,h35,h34,h33,h32,h31,h30,h29,h28,_⟩:=h
 have q28:s 28=K:=(show s 28=ofBytes ((List.range 28).map fun i=>s (0+i)) from h28).trans qK
 have q29:s 29=0:=((show s 29=farOf (mulN gxN gyN (s 28)) from h29).trans (by rw [q28])).trans f1
 have q30:s 30=X:=((show s 30=xOf (mulN gxN gyN (s 28)) from h30).trans (by rw [q28])).trans fx
 have q31:s 31=Y:=((show s 31=yOf (mulN gxN gyN (s 28)) from h31).trans (by rw [q28])).trans fy
 have q36:s 36=gxN:=(show s 36=ofBytes gxB from h36).trans gxB_val
 have q37:s 37=1:=(show s 37=if s 36<pq then 1 else 0 from h37).trans (if_pos (by rw [q36]; exact gx_lt))
 have q38:s 38=gyN:=(show s 38=ofBytes gyB from h38).trans gyB_val
 have q39:s 39=1:=(show s 39=if s 38<pq then 1 else 0 from h39).trans (if_pos (by rw [q38]; exact gy_lt))
 have q40:s 40=1:=(show s 40=1 % pq from h40).trans mod_one_pq
 have q41:s 41=0:=(show s 41=if s 40=0 then 1 else 0 from h41).trans (if_neg (by rw [q40]; decide))
 have q42:s 42=0:=(show s 42=if s 41=1 then 1 else 0 from h42).trans (if_neg (by rw [q41]; decide))
 have q44:s 44=1:=(show s 44=finvq (s 40) from h44).trans (by rw [q40]; exact finv1)
 have q46:s 46=gxN:=(show s 46=s 36*s 44 % pq from h46).trans (by rw [q36,q44]; exact gx_mul1)
 have q48:s 48=gyN:=(show s 48=s 38*s 44 % pq from h48).trans (by rw [q38,q44]; exact gy_mul1)
 have q49:s 49=1:=((show s 49=onN (s 46) (s 48) from h49).trans (by rw [q46,q48])).trans gg_onN
 have q50:s 50=K:=(show s 50=ofBytes ((List.range 28).map fun i=>s (0+i)) from h50).trans qK
 have q51:s 51=0:=((show s 51=farOf (mulN (s 46) (s 48) (s 50)) from h51).trans (by rw [q46,q48,q50])).trans f1
 have q52:s 52=X:=((show s 52=xOf (mulN (s 46) (s 48) (s 50)) from h52).trans (by rw [q46,q48,q50])).trans fx
 have q53:s 53=Y:=((show s 53=yOf (mulN (s 46) (s 48) (s 50)) from h53).trans (by rw [q46,q48,q50])).trans fy
 have q54:s 54=1:=same_ptG h54 (by rw [q30,q52]) (by rw [q31,q53])
 have q55:s 55=1:=((show s 55=onN (s 30) (s 31) from h55).trans (by rw [q30,q31])).trans on1
 have q56:s 56=0:=(show s 56=if s 55=0 then 1 else 0 from h56).trans (if_neg (by rw [q55]; decide))
 exact ⟨q29,q37,q39,q41,q42,q49,q51,q54,q55,q56⟩
end P224
/- Law BaseIsMult. -/
namespace P224
open Go Go.RowKit Go.Proofs
set_option maxRecDepth 100000
set_option linter.unusedVariables false
theorem ntmps19:Try.f19.ntmps=18:=by kernel_rfl
theorem law19_all {w:World} {k0:List Nat} (hk0:Is28 k0):Law 19 w [arrV k0]:=by
 have args:∀ s:Nums,(∀ i,i<28→s i=k0.getD i 0)→ArgsOk s (fun _=>(0,0)) 0 [.agg (numsFrom .u8 0 28)] [arrV k0]:=fun s hs=>⟨agg_rep hk0 fun m hm=>by rw [Nat.zero_add]; exact hs m hm,trivial⟩
 rcases mul_casesG gg_onN (ofBytes k0) with ⟨f1,_⟩|⟨X,Y,f1,fx,fy,_,_,on1,_⟩
 ·refine calls_briefR (F:=fixN 18 0 dec19f []) (tabZ_ok xt19_ok) run19f Try.func19 ntmps19 rfl (by decide +kernel) (by decide +kernel) (by decide +kernel) (show 1≤18 by decide) (show 1<4095 by decide) (fun i=>k0.getD i 0) (fun _=>(0,0))
   (vals:=[arrV k0]) args (fun s hs=>trivial) (fun r l hl hr=>by cases hr) (fun r h=>absurd h (Nat.not_lt_zero r)) (fun r q _ _ h=>by cases h) ?_ ?_
  ·intro s hs hH i bb hb
   have qK:ofBytes ((List.range 28).map fun i=>s (0+i))=ofBytes k0:=by
    rw [← range_getD hk0.1]
    congr 1
    apply List.map_congr_left
    intro i hi
    rw [Nat.zero_add]
    exact hs i (List.mem_range.1 hi)
   obtain ⟨a1,a2,a3,a4,a5,a6,a7,a8⟩:=law19f qK f1 hH
   have:=findT_mem (show findT i dec19f=some bb from hb)
   simp only [dec19f,List.mem_cons,List.not_mem_nil,or_false,Prod.mk.injEq] at this
   rcases this with ⟨rfl,rfl⟩|⟨rfl,rfl⟩|⟨rfl,rfl⟩|⟨rfl,rfl⟩|⟨rfl,rfl⟩|⟨rfl,rfl⟩|⟨rfl,rfl⟩|⟨rfl,rfl⟩ <;> assumption
  ·intro s hs hH st' β' a' w' v hv hm hag hr hbe
   have hv':v=.bool true:=hv
   subst hv'
   exact ⟨rfl,hbe⟩
 ·refine calls_briefR (F:=fixN 18 0 dec19n []) (tabZ_ok xt19_ok) run19n Try.func19 ntmps19 rfl (by decide +kernel) (by decide +kernel) (by decide +kernel) (show 1≤18 by decide) (show 1<4095 by decide) (fun i=>k0.getD i 0) (fun _=>(0,0))
   (vals:=[arrV k0]) args (fun s hs=>trivial) (fun r l hl hr=>by cases hr) (fun r h=>absurd h (Nat.not_lt_zero r)) (fun r q _ _ h=>by cases h) ?_ ?_
  ·intro s hs hH i bb hb
   have qK:ofBytes ((List.range 28).map fun i=>s (0+i))=ofBytes k0:=by
    rw [← range_getD hk0.1]
    congr 1
    apply List.map_congr_left
    intro i hi
    rw [Nat.zero_add]
    exact hs i (List.mem_range.1 hi)
   obtain ⟨a1,a2,a3,a4,a5,a6,a7,a8,a9,a10⟩:=law19n qK f1 fx fy on1 hH
   have:=findT_mem (show findT i dec19n=some bb from hb)
   simp only [dec19n,List.mem_cons,List.not_mem_nil,or_false,Prod.mk.injEq] at this
   rcases this with ⟨rfl,rfl⟩|⟨rfl,rfl⟩|⟨rfl,rfl⟩|⟨rfl,rfl⟩|⟨rfl,rfl⟩|⟨rfl,rfl⟩|⟨rfl,rfl⟩|⟨rfl,rfl⟩|⟨rfl,rfl⟩|⟨rfl,rfl⟩ <;> assumption
  ·intro s hs hH st' β' a' w' v hv hm hag hr hbe
   have hv':v=.bool true:=hv
   subst hv'
   exact ⟨rfl,hbe⟩
end P224
