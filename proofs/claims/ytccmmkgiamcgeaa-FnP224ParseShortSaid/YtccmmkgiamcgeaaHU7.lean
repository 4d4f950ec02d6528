/- Euler's test of the reference: IsSquare. -/
import Derived.Test.YtccmmkgiamcgeaaHS11
import Derived.Test.YtccmmkgiamcgeaaHM1
import Derived.Test.YtccmmkgiamcgeaaHE1
set_option linter.all false
namespace P224
open Go Go.RowKit Go.Proofs
set_option maxRecDepth 100000
set_option linter.unusedVariables false
noncomputable def xs66:List (Nat × X):=(57,x57) :: with1 xsP [] 2000 65 Try.f65
theorem xs66_ok:XsOk xs66:=xcons_ok x57_ok (with1_ok noPrims_ok xsP_ok Try.func65 (by kernel_rfl))
theorem tab66_ok:(tabX true [] xs66).Ok Try.prog:=tabX_ok noPrims_ok xs66_ok
def e66:Nat:=13479973333575319897333507543509815336778958130013154071755033149440
theorem e66_is:(pp - 1) / 2=e66:=by decide +kernel
def st66:St:=startSt [curveAV 0,.one (.sl 1 0 7)] [(0,foldCells),(1,l32s 0)] 1 2
def p66:Wd × Nat × List Ex:=powL e66 224 (.c 1) 2 [.feq (.v 0) (.c 0)]
theorem p66_end:p66.1=.v 353∧p66.2.1=354:=by decide +kernel
def b66a:BriefR:=⟨.ret,2,[.feq (.v 0) (.c 0)],[],[.one (.lit (.bool true))],[]⟩
def b66b:BriefR:=⟨.ret,355,.feq (.v 353) (.c 1) :: p66.2.2,[],[.one (.bl 354)],[]⟩
theorem run66a:briefR (tabX true [] xs66) Try.f66 [] (runF (tabX true [] xs66) (fixD 53 2 [] [] [(1,true)]) 3000 Try.f66 st66)=some b66a:=by kernel_rfl
theorem run66b:briefRSame (briefR (tabX true [] xs66) Try.f66 [] (runF (tabX true [] xs66) (fixD 53 2 [] [] [(1,false)]) 3000 Try.f66 st66)) b66b=true:=by kernel_rfl
theorem fit66a:b66a.fit 1=true:=by kernel_rfl
theorem fit66b:b66b.fit 1=true:=by kernel_rfl
theorem ntmps66:Try.f66.ntmps=53:=by kernel_rfl
theorem meets66 (w:World) (bf of b1 o1 c1 x:Nat) (hc1:7≤c1) (hfo:FoldsAt w bf of) (hx:El w b1 o1 x) :
  Meets Try.prog 66 #[curveV bf of,.slice (some ⟨b1,o1,none⟩) 7 c1] w fun v w'=>v=.bool (isSqN x == 1)∧Below w.heap.size w w':=by
 refine meets_of_calls Try.func66 (by kernel_rfl) (by kernel_rfl) ?_
 let β:Places:=fun r=>if r=0 then (bf,of) else (b1,o1)
 have args:∀ s:Nums,ArgsOk s β 2 [curveAV 0,.one (.sl 1 0 7)] [curveV bf of,.slice (some ⟨b1,o1,none⟩) 7 c1]:=fun s=>⟨curve_rep rfl (show 0<2 by decide),⟨c1,hc1,rfl,show 1<2 by decide⟩,trivial⟩
 have mems:∀ s:Nums,s 0=x→MemOk s β 2 w [(0,foldCells),(1,l32s 0)]:=fun s hs=>⟨show 0<2 by decide,fold_row rfl hfo,show 1<2 by decide,l32_row rfl hx hs,trivial⟩
 have olds:∀ r,r<2→(β r).1<w.heap.size:=fun r _=>by
  show (if r=0 then (bf,of) else (b1,o1)).1<_
  split
  ·exact hfo.lt
  ·exact hx.lt
 by_cases h0:x=0
 ·have hfit:=fit66a
  simp only [BriefR.fit,Bool.and_eq_true,decide_eq_true_eq,beq_iff_eq] at hfit
  obtain ⟨⟨⟨g1,g2⟩,g3⟩,g4⟩:=hfit
  refine calls_briefR (F:=fixD 53 2 [] [] [(1,true)]) tab66_ok run66a Try.func66 ntmps66 g1 g2 g3 g4 (show 2≤53 by decide) (show 2<4095 by decide) (fun _=>x) β
   (vals:=[curveV bf of,.slice (some ⟨b1,o1,none⟩) 7 c1]) (fun s hs=>args s) (fun s hs=>mems s (hs 0 (by decide))) (fun r l hl hr=>by cases hr) olds (fun r q _ _ h=>by cases h) ?_ ?_
  ·intro s hs hH i bb hb
   have hm:=findT_mem (show findT i [(1,true)]=some bb from hb)
   simp only [List.mem_cons,List.not_mem_nil,or_false,Prod.mk.injEq] at hm
   obtain ⟨rfl,rfl⟩:=hm
   have e1:s 1=if s 0=0 then 1 else 0:=hH.1
   rw [e1,hs 0 (by decide),h0]
   rfl
  ·intro s hs hH st' β' a' w' v hv hm hag hr hbe
   have hv':v=.bool true:=hv
   refine ⟨v,rfl,?_,hbe⟩
   have:isSqN x=1:=by rw [isSqN_def,if_pos (.inl h0)]
   rw [hv',this]
   rfl
 ·have hb:=briefRSame_eq run66b
  have hfit:=fit66b
  simp only [BriefR.fit,Bool.and_eq_true,decide_eq_true_eq,beq_iff_eq] at hfit
  obtain ⟨⟨⟨g1,g2⟩,g3⟩,g4⟩:=hfit
  refine calls_briefR (F:=fixD 53 2 [] [] [(1,false)]) tab66_ok hb Try.func66 ntmps66 g1 g2 g3 g4 (show 2≤53 by decide) (show 2<4095 by decide) (fun _=>x) β
   (vals:=[curveV bf of,.slice (some ⟨b1,o1,none⟩) 7 c1]) (fun s hs=>args s) (fun s hs=>mems s (hs 0 (by decide))) (fun r l hl hr=>by cases hr) olds (fun r q _ _ h=>by cases h) ?_ ?_
  ·intro s hs hH i bb hb
   have hm:=findT_mem (show findT i [(1,false)]=some bb from hb)
   simp only [List.mem_cons,List.not_mem_nil,or_false,Prod.mk.injEq] at hm
   obtain ⟨rfl,rfl⟩:=hm
   have hH':Holds s p66.2.1 p66.2.2:=by
    rw [p66_end.2]
    exact hH.2
   have e1:s 1=if s 0=0 then 1 else 0:=(powL_holds 224 _ _ _ hH').1
   rw [e1,hs 0 (by decide),if_neg h0]
   rfl
  ·intro s hs hH st' β' a' w' v hv hm hag hr hbe
   have h0':s 0=x:=hs 0 (by decide)
   have hH':Holds s p66.2.1 p66.2.2:=by
    rw [p66_end.2]
    exact hH.2
   have hl:=powL_law (e:=e66) h0' 224 (.c 1) 2 [.feq (.v 0) (.c 0)] hH' (by
    have:e66 / 2 ^ 224=0:=by decide +kernel
    rw [this]
    rfl)
   have e:(powL e66 224 (.c 1) 2 [.feq (.v 0) (.c 0)]).1=.v 353:=p66_end.1
   rw [e] at hl
   have hlt:s 353<pq:=by
    obtain ⟨p,hp⟩:∃ p:List Ex,p66.2.2=.fmul (.v 352) (.v 352) :: p:=⟨p66.2.2.tail,by decide +kernel⟩
    rw [hp,p66_end.2] at hH'
    have:s 353=s 352*s 352 % pq:=hH'.1
    rw [this]
    exact Nat.mod_lt _ pq_pos
   have hl':s 353 % pq=x ^ e66 % pq:=hl
   rw [Nat.mod_eq_of_lt hlt] at hl'
   have e354:s 354=if s 353=1 then 1 else 0:=hH.1
   have hx':s 353=xpw x e66:=by rw [hl',xpw_def]; rfl
   have hsq:isSqN x=s 354:=by
    rw [isSqN_def,e354,hx',e66_is]
    by_cases h:xpw x e66=1
    ·rw [if_pos h,if_pos (.inr h)]
    ·rw [if_neg h,if_neg (by simp [h0,h])]
   have hv':v=.bool (s 354 == 1):=hv.1
   exact ⟨v,rfl,by rw [hv',hsq],hbe⟩
def x66:X:=fun F st args=>match args with
 | [cv,.one x]=>match isCurve st cv,x.asSl with
  | some _,some (r1,o1,7)=>match elS st.mem r1 o1 with
   | some l=>some (.one (.bl st.nx),{ st with nx:=st.nx+1,exs:=.op 35 [l] :: st.exs })
   | _=>none
  | _,_=>none
 | _=>none
theorem x66_ok:XOk Try.prog 66 x66:=by
 refine ⟨fun {F st st' args av} h=>?_,fun {s β F w0 st st' a w args vs av} hr h hargs hH=>?_⟩
 ·unfold x66 at h
  split at h
  ·split at h
   ·split at h
    ·cases h; exact ⟨⟨[_],rfl,rfl⟩,Nat.le_refl _⟩
    ·cases h
   ·cases h
  ·cases h
 ·unfold x66 at h
  split at h
  ·rename_i cv x
   split at h
   ·rename_i q r1 o1 hcv hx
    split at h
    ·rename_i l hl
     cases h
     obtain ⟨u0,u,rfl,hu0,hu⟩:=avs2 hargs
     obtain ⟨rf,of⟩:=q
     obtain ⟨c0,c1,c2⟩:=isCurve_rep hr hcv hu0
     obtain ⟨⟨ca,hva,hca⟩,_⟩:=asSl_rep hx hu
     have hme:=meets66 w (β rf).1 ((β rf).2+of) (β r1).1 ((β r1).2+o1) ca _ hca c1 (elS_rep hr hl)
     have he:s st.nx=isSqN (l.val s):=hH.1
     have hle:s st.nx≤1:=by
      rw [he]
      rcases isSq_cases (l.val s) with ⟨h,_⟩|⟨h,_⟩ <;> rw [h] <;> decide
     intro o' a' next Q hn
     rw [c0,hva]
     exact hme o' a' next Q fun v' w' ⟨hv',hb⟩=>hn _ _ ⟨β,Agree.refl _ _,⟨by rw [hv',he],hle⟩,(hr.nums _ _).kept hb⟩
    ·cases h
   ·cases h
  ·cases h
end P224
