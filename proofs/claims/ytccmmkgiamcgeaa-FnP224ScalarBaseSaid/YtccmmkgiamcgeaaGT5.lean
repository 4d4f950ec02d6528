/- A drawn region up to a point. -/
import Derived.Test.YtccmmkgiamcgeaaGT1
set_option linter.all false
namespace P224
open Go Go.RowKit Go.Proofs
set_option maxRecDepth 100000
set_option linter.unusedVariables false
def drawnTo (T:Tab) (F:Fix) (L:Nat→Bool) (n0:Nat) (m0:List (Nat × List A0)) (ops:Array Oper) (stop:Array Bool):Nat→Array Bool→St→Option St
 | 0,_,_=>none
 | f+1,listed,st=>bif decide (listed=stop) then canon n0 ops st else
  match Region.ready .any ops listed with
  | []=>none
  | r :: rs =>
   match pickQuiet T F L st ops listed (r :: rs) with
   | some (i,st')=>drawnTo T F L n0 m0 ops stop f (listed.setIfInBounds i true) st'
   | none=>agreed ((r :: rs).map fun i=>match ops[i]? with
     | some o=>match step T F (fun _=>true) ops st o with
      | some st'=>bif keeps L m0 st'.mem then drawnTo T F L n0 m0 ops stop f (listed.setIfInBounds i true) st' else none
      | none=>none
     | none=>none)
section
variable {P:Program} {T:Tab} {s:Nums} {β:Places} {F:Fix} {w0:World} {st:St} {a:Act} {w:World}
theorem drawnTo_grows (hT:T.Ok P) {L:Nat→Bool} {n0:Nat} {m0:List (Nat × List A0)} {ops:Array Oper} {stop:Array Bool}:∀ {f:Nat} {listed:Array Bool} {st st':St},drawnTo T F L n0 m0 ops stop f listed st=some st'→Grows st st'
 | 0,listed,st,st',h=>by cases h
 | f+1,listed,st,st',h=>by
  rw [drawnTo,cond_eq_ite] at h
  split at h
  ·obtain ⟨h1,h2,h3⟩:=canon_grows h
   exact ⟨⟨[],by rw [h1]; rfl,by rw [h2]; rfl⟩,by rw [h3]; exact Nat.le_refl _⟩
  ·split at h
   ·cases h
   ·rename_i r rs _
    split at h
    ·rename_i i st1 hi
     obtain ⟨_,o,_,_,_,h1⟩:=pickQuiet_spec hi
     exact (step_grows hT h1).trans (drawnTo_grows hT h)
    ·have:=agreed_spec h _ (List.mem_map.2 ⟨r,List.mem_cons_self,rfl⟩)
     split at this
     ·split at this
      ·rename_i h1
       obtain ⟨_,h2⟩:=bif_some this
       exact (step_grows hT h1).trans (drawnTo_grows hT h2)
      ·cases this
     ·cases this
theorem drawnTo_wp (hT:T.Ok P) {L:Nat→Bool} {ops:Array Oper} {stop:Array Bool} {Q:Exit→Act→World→Prop} {β0:Places} {n0:Nat} {m0:List (Nat × List A0)}
  (hm0:∀ r l,lookup r m0=some l→r<n0∧∀ x ∈ l,(∀ q o,x=.ptr q o→q<n0)∧(∀ q o m c,x=.slc q o m c→q<n0)∧(∀ q o m,x=.sl q o m→q<n0)∧(∀ q o m i,x=.sv q o m i→q<n0)∧∀ q i,x=.sy q i→q<n0) (hL0:∀ r,L r=true→∃ l,lookup r m0=some l) (hsel:Region.noSelect ops=true)
  (hQ:∀ (d:Option Tmp) v c a w,Q (.panic c) (Act.put a d v) w→Q (.panic c) a w) (hno:F.nold≤n0) (k:Nat) :
  ∀ {f:Nat} {listed:Array Bool} {β:Places} {st st':St} {a:Act} {w:World},Rel F s β w0 st a w→drawnTo T F L n0 m0 ops stop f listed st=some st'→Holds s st'.nx st'.exs →
  Agree β0 β n0→n0≤st.nr→keeps L m0 st.mem=true→(∀ r,L r=true→lookup r st.mem=lookup r m0) →
  (∀ f' β' a' w',Agree β0 β' n0→Rel F s β' w0 st' a' w'→Stay s β0 n0 L m0 w'→wpAnyH P .any ops Q (Stay s β0 n0 L m0) (f'+1+k) stop a' w')→wpAnyH P .any ops Q (Stay s β0 n0 L m0) (f+k) listed a w:=by
 have stay:∀ {β:Places} {st:St} {a:Act} {w:World},Rel F s β w0 st a w→Agree β0 β n0→n0≤st.nr→keeps L m0 st.mem=true→Stay s β0 n0 L m0 w:=by
  intro β st a w h hag hn hk r l hL hl
  obtain ⟨hr,hp⟩:=hm0 r l hl
  obtain ⟨_,hc⟩:=h.mem r l (keeps_spec hk hL hl)
  refine CellsOk.back hag hr (fun x hx v hv=>?_) hc
  cases x with
  | ptr q o =>
   have hq:=(hp _ hx).1 q o rfl
   refine ⟨?_,hq⟩
   rw [hv.1,at_,at_,hag q hq]
  | slc q o m c =>
   have hq:=(hp _ hx).2.1 q o m c rfl
   refine ⟨?_,hq⟩
   rw [hv.1,at_,at_,hag q hq]
  | sl q o m =>
   have hq:=(hp _ hx).2.2.1 q o m rfl
   obtain ⟨c,h1,h2,_⟩:=hv
   refine ⟨c,h1,?_,hq⟩
   rw [h2,at_,at_,hag q hq]
  | sv q o m i =>
   have hq:=(hp _ hx).2.2.2.1 q o m i rfl
   refine ⟨?_,hv.2.1,hq⟩
   rw [hv.1,at_,at_,hag q hq]
  | sy q i =>
   have hq:=(hp _ hx).2.2.2.2 q i rfl
   exact ⟨by rw [hv.1,syV,syV,at_,at_,hag q hq],hq,hv.2.2⟩
  | any=>trivial
  | _=>exact hv
 have reads:∀ {β:Places} {st:St},Agree β0 β n0→n0≤st.nr→(∀ r,L r=true→lookup r st.mem=lookup r m0)→∀ w,Stay s β0 n0 L m0 w→Reads s β st.nr L st.mem w:=by
  intro β st hag hn hsame w hw r l hL hl
  rw [hsame r hL] at hl
  intro j x hx
  obtain ⟨v,h1,h2⟩:=hw r l hL hl j x hx
  refine ⟨v,?_,A0.rep_mono hag hn h2⟩
  rw [at_,hag r (hm0 r l hl).1]
  exact h1
 intro f
 induction f with
 | zero=>intro listed β st st' a w h hd; cases hd
 | succ f ih =>
  intro listed β st st' a w h hd hH hag hn hk hsame hnext
  rw [drawnTo,cond_eq_ite] at hd
  split at hd
  ·rename_i hls
   have hls:=of_decide_eq_true hls
   subst hls
   obtain ⟨β',g1,g2⟩:=canon_rel hd h hn hno
   exact hnext _ β' a w (hag.trans g1 (Nat.le_refl _)) g2 (stay h hag hn hk)
  ·rw [show f+1+k=(f+k)+1 by omega]
   split at hd
   ·cases hd
   ·rename_i r0 rs0 hne
    split at hd
    ·rename_i i st1 hi
     obtain ⟨hmem,o,ho,hq,hfree,h1⟩:=pickQuiet_spec hi
     rw [← hne] at hmem
     have hg:=drawnTo_grows hT hd
     have hH1:=hg.le.holds hH
     have hS:=stay h hag hn hk
     rcases step_cases h1 with ⟨hw,⟨_,v,l,hl,h1'⟩|⟨hq',_⟩⟩|⟨hw,h1'⟩
     ·obtain ⟨e1,e2,e3,e4⟩:=put_st h1'
      rw [e1,e2] at hH1
      obtain ⟨x,hx,hrun⟩:=quiet_rep hT h.dec hl h.tm hH1 (reads hag hn hsame w hS)
      have hrel:=(h.nums _ _).put h1' hx
      refine wpAnyH_take ho hsel hfree (by simpa using hmem) (fun c a w=>hQ _ _ c a w) (.inl ⟨wants_rep h hw,fun w' hw'=>hrun w' (reads hag hn hsame w' hw')⟩) hS ?_
      exact ih hrel hd hH hag (by rw [e3]; exact hn) (by rw [e4]; exact hk) (fun r hr=>by rw [e4]; exact hsame r hr) hnext
     ·rw [hq] at hq'
      cases hq'
     ·obtain ⟨e1,e2,e3,e4⟩:=put_st h1'
      have hrel:=h.put h1' (x:=undef) rfl
      refine wpAnyH_take ho hsel hfree (by simpa using hmem) (fun c a w=>hQ _ _ c a w) (.inr ⟨wants_rep h hw,rfl⟩) hS ?_
      exact ih hrel hd hH hag (by rw [e3]; exact hn) (by rw [e4]; exact hk) (fun r hr=>by rw [e4]; exact hsame r hr) hnext
    ·refine wpAnyH_all hne (by simp) fun j hj=>?_
     have hj':=agreed_spec hd _ (List.mem_map.2 ⟨j,hj,rfl⟩)
     split at hj'
     ·rename_i o ho
      split at hj'
      ·rename_i st1 h1
       obtain ⟨hkk,hd2⟩:=bif_some hj'
       have hg:=drawnTo_grows hT hd2
       have hH1:=hg.le.holds hH
       unfold wpOp
       rw [ho]
       have fin:∀ β' a' w',Agree β β' st.nr→Rel F s β' w0 st1 a' w'→Stay s β0 n0 L m0 w'∧wpAnyH P .any ops Q (Stay s β0 n0 L m0) (f+k) (listed.setIfInBounds j true) a' w':=fun β' a' w' hag' hr'=>by
        have hag2:Agree β0 β' n0:=hag.trans hag' hn
        have hn2:n0≤st1.nr:=Nat.le_trans hn (step_grows hT h1).nr
        refine ⟨stay hr' hag2 hn2 hkk,?_⟩
        refine ih hr' hd2 hH hag2 hn2 hkk (fun r hL=>?_) hnext
        obtain ⟨l,hl⟩:=hL0 r hL
        rw [hl]
        exact keeps_spec hkk hL hl
       rcases step_wants h1 with hw | ⟨hw,hp⟩
       ·simp only [wants_rep h hw,if_true]
        exact .inl (step_wp hT h h1 hw hH1 fin)
       ·simp only [wants_rep h hw,Bool.false_eq_true,if_false]
        exact fin β _ _ (Agree.refl _ _) (h.put hp (x:=undef) rfl)
      ·cases hj'
     ·cases hj'
end
end P224
/- The reference's points written: what it does. -/
namespace P224
open Go Go.RowKit Go.Proofs
set_option maxRecDepth 100000
set_option linter.unusedVariables false
def seqL:Code→Code
 | .seq a _=>a
 | c=>c
def seqR:Code→Code
 | .seq _ b=>b
 | c=>c
def regOps:Code→Array Oper
 | .region _ ops _=>ops
 | _=>#[]
def regId:Code→Nat
 | .region i _ _=>i
 | _=>0
noncomputable def code23:Code:=(Try.f23.body).getD .skip
noncomputable def A23:Code:=seqL code23
noncomputable def B23:Code:=seqL (seqR code23)
noncomputable def ops23:Array Oper:=regOps (seqL (seqR (seqR code23)))
noncomputable def id23:Nat:=regId (seqL (seqR (seqR code23)))
theorem body23:Try.f23.body=some (.seq A23 (.seq B23 (.seq (.region id23 ops23 true) .ret))):=by kernel_rfl
noncomputable def xs23:List (Nat × X):=[(41,x41)]
theorem xs23_ok:XsOk xs23:=xcons_ok x41_ok xnil_ok
noncomputable def tab23:Tab:=tabX true [] xs23
theorem tab23_ok:tab23.Ok Try.prog:=tabX_ok noPrims_ok xs23_ok
def fix23:Fix:=fixD 19 3 [] [] [(4,true)]
def st23:St:=startSt [curveAV 0,.agg [.lit (.bool false),.sv 1 0 7 2,.sv 2 0 7 3]] [(0,foldCells),(1,l32s 0),(2,l32s 1)] 4 3
noncomputable def outSt (r:Option (Out × St)):St:=match r with
 | some (_,st)=>st
 | none=>startSt [] [] 0 0
noncomputable def st23A:St:=outSt (run tab23 fix23 50 A23 st23)
noncomputable def st23B:St:=outSt (run tab23 fix23 50 B23 st23A)
def stop23:Array Bool:=#[true,true,true,true,true,false,true,true,true,false,false,false]
noncomputable def L23 (r:Nat):Bool:=(lookup r st23B.mem).isSome
noncomputable def st23C:St:=(drawnTo tab23 fix23 L23 st23B.nr st23B.mem ops23 stop23 9 (Array.replicate 12 false) st23B).getD (startSt [] [] 0 0)
theorem runA23:run tab23 fix23 50 A23 st23=some (.normal,st23A):=by kernel_rfl
theorem runB23:run tab23 fix23 50 B23 st23A=some (.normal,st23B):=by kernel_rfl
theorem runC23:drawnTo tab23 fix23 L23 st23B.nr st23B.mem ops23 stop23 9 (Array.replicate 12 false) st23B=some st23C:=by kernel_rfl
theorem exsA23:st23A.exs=[]∧st23A.nx=4:=by constructor <;> kernel_rfl
theorem exsB23:st23B.exs=[]∧st23B.nx=4:=by constructor <;> kernel_rfl
theorem exsC23:st23C.exs=[.op 4 [.v 0,.c pq]]∧st23C.nx=5:=by constructor <;> kernel_rfl
noncomputable def o23 (i : Nat) : Oper := ops23.getD i ⟨none, .move (.const .nilIface), 0, "", #[], none⟩
theorem get23_5:ops23[5]?=some (o23 5):=by kernel_rfl
theorem get23_9:ops23[9]?=some (o23 9):=by kernel_rfl
theorem get23_10:ops23[10]?=some (o23 10):=by kernel_rfl
theorem get23_11:ops23[11]?=some (o23 11):=by kernel_rfl
theorem op23_5:(o23 5).op=.call { callee:=.builtin .append,args:=#[.tmp 8,.tmp 12],argTypes:=#[27,27] }:=by kernel_rfl
theorem op23_9:(o23 9).op=.call { callee:=.value (.func 41),args:=#[.tmp 14,.tmp 16],argTypes:=#[25,33] }:=by kernel_rfl
theorem op23_10:(o23 10).op=.call { callee:=.builtin .append,args:=#[.tmp 13,.tmp 17],argTypes:=#[27,27] }:=by kernel_rfl
theorem op23_11:(o23 11).op=.assign (.tmp 18):=by kernel_rfl
theorem gd23:(o23 5).guard=none∧(o23 9).guard=none∧(o23 10).guard=none∧(o23 11).guard=none:=by refine ⟨?_,?_,?_,?_⟩ <;> kernel_rfl
theorem ds23:(o23 5).dst=some 13∧(o23 9).dst=some 17∧(o23 10).dst=some 18∧(o23 11).dst=some 4:=by refine ⟨?_,?_,?_,?_⟩ <;> kernel_rfl
def stop23a:Array Bool:=stop23.setIfInBounds 5 true
def stop23b:Array Bool:=stop23a.setIfInBounds 9 true
def stop23c:Array Bool:=stop23b.setIfInBounds 10 true
def stop23d:Array Bool:=stop23c.setIfInBounds 11 true
theorem rdy23:Region.ready .any ops23 stop23=[5]∧Region.ready .any ops23 stop23a=[9]∧Region.ready .any ops23 stop23b=[10]∧Region.ready .any ops23 stop23c=[11]∧Region.ready .any ops23 stop23d=[]:=by
 refine ⟨?_,?_,?_,?_,?_⟩ <;> kernel_rfl
theorem tm23:st23C.tm.get 8=some (.one (.slc 6 0 1 1))∧st23C.tm.get 12=some (.one (.slc 5 0 28 28))∧st23C.tm.get 14=some (curveAV 0)∧st23C.tm.get 16=some (.one (.sv 2 0 7 3)):=by refine ⟨?_,?_,?_,?_⟩ <;> kernel_rfl
theorem mem23:cellsAt st23C.mem 6 0 1=some [.lit (.int .u8 4)]∧cellsAt st23C.mem 5 0 28=some (byts down 0):=by refine ⟨?_,?_⟩ <;> kernel_rfl
theorem cur23:isCurve st23C (curveAV 0)=some (0,0):=by kernel_rfl
theorem el23:elS st23C.mem 2 0=some (.v 1):=by kernel_rfl
theorem size23:ops23.size=12:=by kernel_rfl
theorem sel23:Region.noSelect ops23=true:=by kernel_rfl
theorem res23:Try.f23.results=#[.tmp 4]:=by kernel_rfl
theorem kp23:keeps L23 st23B.mem st23B.mem=true:=by kernel_rfl
theorem nr23:st23B.nr=5:=by kernel_rfl
theorem wanted_none {o:Oper} (h:o.guard=none) (y:Nat→Option Bool):Region.wanted o y=true:=by
 unfold Region.wanted
 rw [h]
theorem put_same {a:Act} {t:Nat} {v:Value} (h:t<a.tmps.size):(a.put (some t) v).tmps.getD t undef=v:=by
 simp [Act.put,Array.getD,h]
theorem put_other {a:Act} {t u:Nat} {v:Value} (h:u≠t):(a.put (some t) v).tmps.getD u undef=a.tmps.getD u undef:=by
 simp only [Act.put,Array.getD_eq_getD_getElem?]
 rw [Array.getElem?_setIfInBounds_ne (Ne.symm h)]
theorem put_size {a:Act} {t:Nat} {v:Value}:(a.put (some t) v).tmps.size=a.tmps.size:=by simp [Act.put]
theorem Stay.below {s:Nums} {β:Places} {n B:Nat} {L:Nat→Bool} {m:List (Nat × List A0)} {w w':World} (h:Stay s β n L m w) (hB:w.heap.size≤B) (hb:Below B w w'):Stay s β n L m w':=by
 intro r l hL hl j x hx
 obtain ⟨v,h1,h2⟩:=h r l hL hl j x hx
 refine ⟨v,?_,h2⟩
 rw [World.cell?_of_block (hb.block _ (Nat.lt_of_lt_of_le (World.block_lt_of_cell? w _ h1) hB))]
 exact h1
theorem owns_below {w w':World} {base e size n:Nat} {v:Value} {xs:List Value} (h:w.ownsRow base e size v n xs) (hb:Below w.heap.size w w'):w'.ownsRow base e size v n xs:=by
 refine ⟨h.1,?_⟩
 rcases h.2 with h2 | ⟨g,cap,cur,h1,h2,h3,h4⟩
 ·exact .inl h2
 ·refine .inr ⟨g,cap,cur,h1,h2,?_,h4⟩
  have hlt:g<w.heap.size:=by
   by_cases hc:g<w.heap.size
   ·exact hc
   ·rw [Array.getElem?_eq_none (by omega)] at h3
    cases h3
  rw [hb.block g hlt,h3]
theorem FoldsAt.below {w w':World} {bf of:Nat} (h:FoldsAt w bf of) (hb:Below w.heap.size w w'):FoldsAt w' bf of:=by
 have hl:bf<w.heap.size:=World.block_lt_of_cell? w _ h.1
 have e:=fun o=>World.cell?_of_block (w:=w) (w':=w') (a:=⟨bf,o,none⟩) (hb.block bf hl)
 obtain ⟨h1,h2,h3,h4⟩:=h
 exact ⟨by rw [e]; exact h1,by rw [e]; exact h2,by rw [e]; exact h3,by rw [e]; exact h4⟩
theorem El.below {w w':World} {b o x:Nat} (h:El w b o x) (hb:Below w.heap.size w w'):El w' b o x:=by
 have hl:b<w.heap.size:=World.block_lt_of_cell? w _ (h.1 0 (by decide))
 refine ⟨fun k hk=>?_,h.2⟩
 rw [World.cell?_of_block (w:=w) (w':=w') (hb.block b hl)]
 exact h.1 k hk
def pvals (x y:Nat):List Nat:=4 :: ((List.range 28).map (fun k=>by8 (27 - k) x) ++ (List.range 28).map fun k=>by8 (27 - k) y)
theorem pvals_len (x y:Nat):(pvals x y).length=57:=by simp [pvals]
def bvals (y:Nat):List Value:=(List.range 28).map fun k=>.int .u8 (by8 (27 - k) y:Int)
theorem pvals_map (x y:Nat):(pvals x y).map (fun (z:Nat)=>Value.int .u8 (z:Int))=([.int .u8 4] ++ bvals x) ++ bvals y:=by
 simp [pvals,bvals,List.map_map,Function.comp_def]
def NewPt (w:World) (x y:Nat) (v:Value) (w':World):Prop :=
 ∃ b c,w.heap.size≤b∧b<w'.heap.size∧57≤c∧v=.slice (some ⟨b,0,none⟩) 57 c∧(∀ (k z:Nat),(pvals x y)[k]?=some z→w'.cell? ⟨b,k,none⟩=some (.int .u8 (z:Int)))∧(∀ k,k<57→w'.frozen? ⟨b,k,none⟩=false)∧Below w.heap.size w w'
theorem bvals_get {w:World} {b y:Nat} (h:∀ k,k<28→w.cell? ⟨b,k,none⟩=some (.int .u8 (by8 (27 - k) y:Int))) (j:Nat) (u:Value) (hu:(bvals y)[j]?=some u):w.cell? ((⟨b,0,none⟩:Addr).add j)=some u:=by
 have hj:j<28:=by
  have:=(List.getElem?_eq_some_iff.1 hu).1
  simpa [bvals] using this
 rw [bvals,List.getElem?_map,List.getElem?_range hj] at hu
 cases hu
 have:=h j hj
 unfold Addr.add
 by_cases h0:j=0
 ·subst h0; simpa using this
 ·simpa [h0] using this
theorem meets23 (w:World) (bf of b1 o1 c1 b2 o2 c2 x y:Nat) (hc1:7≤c1) (hc2:7≤c2) (hfo:FoldsAt w bf of) (h1:El w b1 o1 x) (h2:El w b2 o2 y) (hx:x<pq) (hy:y<pq) :
  Meets Try.prog 23 #[curveV bf of,.agg #[.bool false,.slice (some ⟨b1,o1,none⟩) 7 c1,.slice (some ⟨b2,o2,none⟩) 7 c2]] w (NewPt w x y):=by
 refine meets_of_calls Try.func23 (by kernel_rfl) (by kernel_rfl) ?_
 let s:Nums:=fun i=>match i with | 0=>x | 1=>y | 2=>c1 | 3=>c2 | _=>if x<pq then 1 else 0
 let β:Places:=fun r=>if r=0 then (bf,of) else if r=1 then (b1,o1) else (b2,o2)
 have hC:Holds s st23C.nx st23C.exs:=by
  rw [exsC23.1,exsC23.2]
  exact ⟨rfl,trivial⟩
 have hA:Holds s st23A.nx st23A.exs:=by rw [exsA23.1]; trivial
 have hB:Holds s st23B.nx st23B.exs:=by rw [exsB23.1]; trivial
 have hdec:Dec fix23 s:=by
  intro i bb hb
  have hb':findT i [(4,true)]=some bb:=hb
  have:=findT_mem hb'
  simp only [List.mem_cons,List.not_mem_nil,or_false,Prod.mk.injEq] at this
  obtain ⟨rfl,rfl⟩:=this
  show (if x<pq then 1 else 0)=_
  rw [if_pos hx]
  rfl
 have hargs:ArgsOk s β fix23.nold [curveAV 0,.agg [.lit (.bool false),.sv 1 0 7 2,.sv 2 0 7 3]] [curveV bf of,.agg #[.bool false,.slice (some ⟨b1,o1,none⟩) 7 c1,.slice (some ⟨b2,o2,none⟩) 7 c2]]:=by
  refine ⟨curve_rep rfl (show 0<3 by decide),⟨[.bool false,.slice (some ⟨b1,o1,none⟩) 7 c1,.slice (some ⟨b2,o2,none⟩) 7 c2],rfl,rfl,fun j a v ha hv=>?_⟩,trivial⟩
  match j,ha,hv with
  | 0,ha,hv=>cases ha; cases hv; exact rfl
  | 1,ha,hv=>cases ha; cases hv; exact ⟨rfl,hc1,show 1<3 by decide⟩
  | 2,ha,hv=>cases ha; cases hv; exact ⟨rfl,hc2,show 2<3 by decide⟩
  | j+3,ha,hv=>cases ha
 have hmem:MemOk s β fix23.nold w [(0,foldCells),(1,l32s 0),(2,l32s 1)]:=⟨show 0<3 by decide,fold_row rfl hfo,show 1<3 by decide,l32_row rfl h1 rfl,show 2<3 by decide,l32_row rfl h2 rfl,trivial⟩
 obtain ⟨hlen,hget⟩:=hargs.get
 have hstart:Rel fix23 s β w st23 { tmps:=#[curveV bf of,.agg #[.bool false,.slice (some ⟨b1,o1,none⟩) 7 c1,.slice (some ⟨b2,o2,none⟩) 7 c2]] ++ Array.replicate (Try.f23.ntmps - 2) undef,defers:=[] } w :=
  rel_start (ntmps:=Try.f23.ntmps) hlen Try.ntmps23 (show 2≤19 by decide) (show 2<4095 by decide) hget hmem.get (fun r l hl hr=>by cases hr) (fun r _=>by
   show (if r=0 then (bf,of) else if r=1 then (b1,o1) else (b2,o2)).1<_
   split
   ·exact hfo.lt
   ·split
    ·exact World.block_lt_of_cell? w _ (h1.1 0 (by decide))
    ·exact World.block_lt_of_cell? w _ (h2.1 0 (by decide))) (fun r q _ _ h=>by cases h) hdec
 refine calls_of_wp Try.func23 body23 ?_
 refine wp_seq (run_wp tab23_ok hstart runA23 hA fun β1 a1 w1 g1 r1=>?_)
 show (Code.seq B23 _).wp _ _ a1 w1
 refine wp_seq (run_wp tab23_ok r1 runB23 hB fun β2 a2 w2 g2 r2=>?_)
 show (Code.seq _ _).wp _ _ a2 w2
 refine wp_seq ?_
 refine wp_mono (Q:=Norm _) ?_ Norm.imp
 refine wp_region_held (S:=Stay s β2 st23B.nr L23 st23B.mem) tab23_ok.mixed ?_
 rw [size23]
 refine drawnTo_wp tab23_ok (f:=9) (stop:=stop23) ?_ (fun r hL=>Option.isSome_iff_exists.1 hL) sel23 (fun d v c a w hh=>hh.elim) (by rw [nr23]; decide) 3 (drew_rel r2) runC23 hC (Agree.refl _ _) (Nat.le_refl _) kp23 (fun _ _=>rfl) ?_
 ·intro r l hl
  obtain ⟨hrn,hc⟩:=r2.mem r l hl
  refine ⟨hrn,fun x hx=>?_⟩
  obtain ⟨j,hj⟩:=List.getElem?_of_mem hx
  obtain ⟨v,_,hv⟩:=hc j x hj
  refine ⟨fun q o e=>?_,fun q o m c e=>?_,fun q o m e=>?_,fun q o m i e=>?_,fun q i e=>?_⟩ <;> subst e
  ·exact hv.2
  ·exact hv.2
  ·obtain ⟨_,_,_,h⟩:=hv; exact h
  ·exact hv.2.2
  ·exact hv.2.1
 intro f' β3 a3 w3 g3 r3 hS3
 obtain ⟨t8,t12,t14,t16⟩:=tm23
 obtain ⟨d5,d9,d10,d11⟩:=ds23
 obtain ⟨q5,q9,q10,q11⟩:=gd23
 obtain ⟨y5,y9,y10,y11,y12⟩:=rdy23
 have hsz:a3.tmps.size=19:=r3.size
 have hw3:Below w.heap.size w w3:=by
  have hb:=r3.below
  have ho:st23C.out=[]:=by kernel_rfl
  rw [ho] at hb
  exact hb
 have e8:a3.tmps.getD 8 undef=.slice (some (at_ β3 6 0)) 1 1:=(r3.tm 8 _ t8).1
 have e12:a3.tmps.getD 12 undef=.slice (some (at_ β3 5 0)) 28 28:=(r3.tm 12 _ t12).1
 obtain ⟨e14,f14,_⟩:=isCurve_rep r3 cur23 (r3.tm 14 _ t14)
 have e16:a3.tmps.getD 16 undef=.slice (some (at_ β3 2 0)) 7 c2:=(r3.tm 16 _ t16).1
 have k16:El w3 (β3 2).1 ((β3 2).2+0) y:=elS_rep r3 el23
 obtain ⟨m1,m2,m3,m4⟩:=cells_vals r3 mem23.1 (fun x hx=>by rw [List.mem_singleton.1 hx]; rfl)
 obtain ⟨n1,n2,n3,n4⟩:=cells_vals r3 mem23.2 (fun x hx=>by obtain ⟨j,_,rfl⟩:=List.mem_map.1 hx; rfl)
 obtain ⟨ib,hi,hi1,hi2,hi3⟩:=byte_info
 obtain ⟨v13,w4,hrun5,hown5,hgr5⟩:=run_append_arg_grows (P:=Try.prog) (w:=w3) 27 (o23 5).type 5 ib (.int .u8 0) 1 1 Try.underlying27 hi hi3 hi1 hi2 rfl (by decide)
  (at_ β3 6 0) 1 1 [.int .u8 4] rfl m2 (at_ β3 5 0) 28 28 (bvals x) (by simp [bvals]) n2 (by decide) (by decide) (by decide)
 have b4:Below w3.heap.size w3 w4:=⟨hgr5.os,hgr5.tape,hgr5.output,hgr5.size,fun k hk=>hgr5.block k hk (fun e=>by cases e)⟩
 have hrun5':(execOp a3.eval (o23 5)).run Try.prog w3=.ok (.value v13) w4:=by
  have e8':a3.eval (.tmp 8)=.slice (some (at_ β3 6 0)) 1 1:=e8
  have e12':a3.eval (.tmp 12)=.slice (some (at_ β3 5 0)) 28 28:=e12
  simp only [execOp,op23_5,resolve,Sem.run_bind,Sem.run_pure,Result.andThen,invoke,builtin,List.map_toArray,List.map_cons,List.map_nil,e8',e12',hrun5]
 refine wpAnyH_all y5 (by simp) fun i hi5=>?_
 rw [List.mem_singleton.1 hi5]
 unfold wpOp
 rw [get23_5]
 simp only [wanted_none q5,if_true]
 refine .inl (upon_value_ok hrun5' ⟨hS3.below (Nat.le_refl _) b4,?_⟩)
 rw [d5]
 have hm:=meets41 w4 (β3 0).1 ((β3 0).2+0) (β3 2).1 ((β3 2).2+0) c2 y hc2 (f14.below b4) (k16.below b4)
 refine wpAnyH_all y9 (by simp) fun i hi9=>?_
 rw [List.mem_singleton.1 hi9]
 unfold wpOp
 rw [get23_9]
 simp only [wanted_none q9,if_true]
 have ea9:((a3.put (some 13) v13).eval (.tmp 14))=curveV (β3 0).1 ((β3 0).2+0):=(put_other (by decide)).trans e14
 have eb9:((a3.put (some 13) v13).eval (.tmp 16))=.slice (some ⟨(β3 2).1,(β3 2).2+0,none⟩) 7 c2:=(put_other (by decide)).trans e16
 refine .inl (call_wp (s:=s) op23_9 rfl (by
  simp only [List.map_cons,List.map_nil,ea9,eb9]
  exact hm) fun v17 w5 hv17=>?_)
 obtain ⟨b,hb1,hb2,rfl,hb3,hb4,b5⟩:=hv17
 have b35:Below w3.heap.size w3 w5:=⟨b5.os.trans b4.os,b5.tape.trans b4.tape,b5.output.trans b4.output,Nat.le_trans b4.size b5.size,fun k hk=>(b5.block k (Nat.lt_of_lt_of_le hk b4.size)).trans (b4.block k hk)⟩
 refine ⟨hS3.below (Nat.le_refl _) b35,?_⟩
 rw [d9]
 have hown5':=owns_below hown5 b5
 obtain ⟨v18,w6,hrun6,hown6,hgr6,_⟩:=run_append_own (P:=Try.prog) (w:=w5) w3.heap.size 27 (o23 10).type 5 ib (.int .u8 0) 1 1 Try.underlying27 hi hi3 hi1 hi2 rfl (by decide)
  v13 (1+28) ([.int .u8 4] ++ bvals x) hown5' ⟨b,0,none⟩ 28 28 (bvals y) (by simp [bvals]) (bvals_get hb3) (fun u hu=>by obtain ⟨j,_,rfl⟩:=List.mem_map.1 hu; rfl) (by decide) (by decide) (Nat.le_trans b4.size b5.size)
 have b36:Below w3.heap.size w3 w6:=⟨hgr6.os.trans b35.os,hgr6.tape.trans b35.tape,hgr6.output.trans b35.output,Nat.le_trans b35.size hgr6.size,fun k hk=>by
  rw [hgr6.block k (Nat.lt_of_lt_of_le hk b35.size) (fun e=>?_)]
  ·exact b35.block k hk
  ·rcases hown5.2 with ⟨rfl,_⟩|⟨g,cap,cur,rfl,hg,_⟩
   ·cases e
   ·cases e
    exact absurd hk (Nat.not_lt.2 hg)⟩
 refine wpAnyH_all y10 (by simp) fun i hi10=>?_
 rw [List.mem_singleton.1 hi10]
 unfold wpOp
 rw [get23_10]
 simp only [wanted_none q10,if_true]
 have s1:(a3.put (some 13) v13).tmps.size=19:=by rw [put_size,hsz]
 have ea10:((a3.put (some 13) v13).put (some 17) (slice28 b 0)).eval (.tmp 13)=v13:=(put_other (by decide)).trans (put_same (by rw [hsz]; decide))
 have eb10:((a3.put (some 13) v13).put (some 17) (slice28 b 0)).eval (.tmp 17)=.slice (some ⟨b,0,none⟩) 28 28:=put_same (by rw [s1]; decide)
 have hrun6':(execOp ((a3.put (some 13) v13).put (some 17) (slice28 b 0)).eval (o23 10)).run Try.prog w5=.ok (.value v18) w6:=by
  simp only [execOp,op23_10,resolve,Sem.run_bind,Sem.run_pure,Result.andThen,invoke,builtin,List.map_toArray,List.map_cons,List.map_nil,ea10,eb10,hrun6]
 refine .inl (upon_value_ok hrun6' ⟨hS3.below (Nat.le_refl _) b36,?_⟩)
 rw [d10]
 refine wpAnyH_all y11 (by simp) fun i hi11=>?_
 rw [List.mem_singleton.1 hi11]
 unfold wpOp
 rw [get23_11]
 simp only [wanted_none q11,if_true]
 have s2:((a3.put (some 13) v13).put (some 17) (slice28 b 0)).tmps.size=19:=by rw [put_size,s1]
 have s3:(((a3.put (some 13) v13).put (some 17) (slice28 b 0)).put (some 18) v18).tmps.size=19:=by rw [put_size,s2]
 have ea11:(((a3.put (some 13) v13).put (some 17) (slice28 b 0)).put (some 18) v18).eval (.tmp 18)=v18:=put_same (by rw [s2]; decide)
 have hrun7:(execOp (((a3.put (some 13) v13).put (some 17) (slice28 b 0)).put (some 18) v18).eval (o23 11)).run Try.prog w6=.ok (.value v18) w6:=by
  simp only [execOp,op23_11,Sem.run_pure,ea11]
 refine .inl (upon_value_ok hrun7 ⟨hS3.below (Nat.le_refl _) b36,?_⟩)
 rw [d11]
 refine wpAnyH_done y12 ?_ _
 show Code.ret.wp _ _ _ _
 refine wp_ret (bodyPost_ret (results_tmp res23 _ _ _) r3.defs ?_)
 refine ⟨_,rfl,?_⟩
 rw [put_same (by rw [s3]; decide)]
 obtain ⟨hlen6,hown6⟩:=hown6
 rcases hown6 with ⟨_,h0⟩|⟨g,cp,cur,rfl,hb,hcur,hle,_,hcsz,htake⟩
 ·cases h0
 ·have hlt:g<w6.heap.size:=by
   by_cases h:g<w6.heap.size
   ·exact h
   ·rw [Array.getElem?_eq_none (by omega)] at hcur
    cases hcur
  refine ⟨g,cp,Nat.le_trans hw3.size hb,hlt,hle,rfl,fun k z hz=>?_,fun k hk=>?_,?_⟩
  ·have h1:((pvals x y).map (fun (z:Nat)=>Value.int .u8 (z:Int)))[k]?=some (.int .u8 (z:Int)):=by rw [List.getElem?_map,hz]; rfl
   rw [pvals_map,← htake] at h1
   have h2:cur.toList[k]?=some (.int .u8 (z:Int)):=by
    have hj:k<(1+28+28)*1:=by
     have:=(List.getElem?_eq_some_iff.1 h1).1
     rw [List.length_take] at this
     omega
    rwa [List.getElem?_take_of_lt hj] at h1
   simp only [World.cell?,hcur]
   simpa using h2
  ·simp [World.frozen?,hcur]
  ·exact ⟨b36.os.trans hw3.os,b36.tape.trans hw3.tape,b36.output.trans hw3.output,Nat.le_trans hw3.size b36.size,fun k hk=>(b36.block k (Nat.lt_of_lt_of_le hk hw3.size)).trans (hw3.block k hk)⟩
end P224
/- Points written, as a call that the executor knows. -/
namespace P224
open Go Go.RowKit Go.Proofs
set_option maxRecDepth 100000
set_option linter.unusedVariables false
def X.or (g h:X):X:=fun F st args=>match g F st args with
 | some r=>some r
 | none=>h F st args
theorem X.or_ok {P:Program} {f:FuncId} {g h:X} (hg:XOk P f g) (hh:XOk P f h):XOk P f (X.or g h):=by
 refine ⟨fun {F st st' args av} hq=>?_,fun {s β F w0 st st' a w args vs av} hr hq hargs hH=>?_⟩
 ·unfold X.or at hq
  split at hq
  ·rename_i r hg'
   cases hq
   exact hg.1 hg'
  ·exact hh.1 hq
 ·unfold X.or at hq
  split at hq
  ·rename_i r hg'
   cases hq
   exact hg.2 hr hg' hargs hH
  ·exact hh.2 hr hq hargs hH
def ptRow (i j:Nat):List A0:=.lit (.int .u8 4) :: (byts down i ++ byts down j)
theorem byts_down_get (i k:Nat) (hk:k<28):(byts down i)[k]?=some (.byt i (27 - k)):=by
 rw [byts,List.getElem?_map,List.getElem?_range hk]
 rfl
theorem byts_down_len (i:Nat):(byts down i).length=28:=by simp [byts]
theorem ptRow_len (i j:Nat):(ptRow i j).length=57:=by
 rw [ptRow,List.length_cons,List.length_append,byts_down_len,byts_down_len]
theorem ptRow_rep {s:Nums} {i j:Nat} (hi:s i<pq) (hj:s j<pq) (k:Nat) (x:A0) (hx:(ptRow i j)[k]?=some x) :
  ∃ z:Nat,(pvals (s i) (s j))[k]?=some z∧∀ β n,x.rep s β n (.int .u8 (z:Int)):=by
 match k,hx with
 | 0,hx=>cases hx; exact ⟨4,rfl,fun _ _=>rfl⟩
 | k+1,hx =>
  rw [ptRow,List.getElem?_cons_succ] at hx
  rw [pvals,List.getElem?_cons_succ]
  by_cases hk:k<28
  ·rw [List.getElem?_append_left (by rw [byts_down_len]; exact hk),byts_down_get i k hk] at hx
   cases hx
   rw [List.getElem?_append_left (by simp [hk]),List.getElem?_map,List.getElem?_range hk]
   exact ⟨_,rfl,fun _ _=>⟨rfl,hi⟩⟩
  ·have hk2:k - 28<28:=by
    have h1:=(List.getElem?_eq_some_iff.1 hx).1
    rw [List.length_append,byts_down_len,byts_down_len] at h1
    omega
   rw [List.getElem?_append_right (by rw [byts_down_len]; omega),byts_down_len,byts_down_get j _ hk2] at hx
   cases hx
   rw [List.getElem?_append_right (by simp; omega)]
   simp only [List.length_map,List.length_range]
   rw [List.getElem?_map,List.getElem?_range hk2]
   exact ⟨_,rfl,fun _ _=>⟨rfl,hj⟩⟩
def x23a:X:=fun F st args=>match args with
 | [cv,.agg [.lit (.bool false),x,y]]=>match isCurve st cv,x.asSl,y.asSl with
  | some _,some (r1,o1,7),some (r2,o2,7)=>match elS st.mem r1 o1,elS st.mem r2 o2,F.dec st.nx,F.dec (st.nx+1) with
   | some (.v i),some (.v j),some true,some true=>some (.one (.sl st.nr 0 57),{ st with mem:=(st.nr,ptRow i j) :: st.mem,nr:=st.nr+1,nx:=st.nx+2,exs:=.op 4 [.v j,.c pq] :: .op 4 [.v i,.c pq] :: st.exs })
   | _,_,_,_=>none
  | _,_,_=>none
 | _=>none
theorem x23a_ok:XOk Try.prog 23 x23a:=by
 refine ⟨fun {F st st' args av} h=>?_,fun {s β F w0 st st' a w args vs av} hr h hargs hH=>?_⟩
 ·unfold x23a at h
  split at h
  ·split at h
   ·split at h
    ·cases h; exact ⟨⟨[_,_],rfl,rfl⟩,Nat.le_succ _⟩
    ·cases h
   ·cases h
  ·cases h
 ·unfold x23a at h
  split at h
  ·rename_i cv x y
   split at h
   ·rename_i q r1 o1 r2 o2 hcv hx hy
    split at h
    ·rename_i i j hi hj hd1 hd2
     cases h
     obtain ⟨u0,u,rfl,hu0,hu⟩:=avs2 hargs
     obtain ⟨rf,of⟩:=q
     obtain ⟨c0,c1,c2⟩:=isCurve_rep hr hcv hu0
     obtain ⟨vs,rfl,hlen,hc⟩:=hu
     match vs,hlen,hc with
     | [v0,v1,v2],_,hc =>
     have z0:v0=.bool false:=hc 0 _ v0 rfl rfl
     obtain ⟨⟨ca,hva,hca⟩,_⟩:=asSl_rep hx (hc 1 _ v1 rfl rfl)
     obtain ⟨⟨cb,hvb,hcb⟩,_⟩:=asSl_rep hy (hc 2 _ v2 rfl rfl)
     have e2:s (st.nx+1)=if s j<pq then 1 else 0:=hH.1
     have e1:s st.nx=if s i<pq then 1 else 0:=hH.2.1
     have dd1:=hr.dec _ _ hd1
     have dd2:=hr.dec _ _ hd2
     have l1:s i<pq:=by
      by_cases hc:s i<pq
      ·exact hc
      ·rw [if_neg hc] at e1
       rw [e1] at dd1
       cases dd1
     have l2:s j<pq:=by
      by_cases hc:s j<pq
      ·exact hc
      ·rw [if_neg hc] at e2
       rw [e2] at dd2
       cases dd2
     have hme:=meets23 w (β rf).1 ((β rf).2+of) (β r1).1 ((β r1).2+o1) ca (β r2).1 ((β r2).2+o2) cb _ _ hca hcb c1 (elS_rep hr hi) (elS_rep hr hj) l1 l2
     intro o' a' next Q hn
     rw [c0,z0,hva,hvb]
     refine hme o' a' next Q fun v' w' ⟨b,c,h1,h2,h3,h4,h5,h6,h7⟩=>hn _ _ ?_
     obtain ⟨β',hag,hnew,hrel⟩:=hr.came h1 h2 h7 (l:=ptRow i j) (fun k x hx=>by
      obtain ⟨z,hz,hrep⟩:=ptRow_rep l1 l2 k x hx
      exact ⟨_,h5 k z hz,hrep⟩) (fun k hk=>h6 k (by rw [ptRow_len] at hk; exact hk)) (st.nx+2) (.op 4 [.v j,.c pq] :: .op 4 [.v i,.c pq] :: st.exs)
     refine ⟨β',hag,⟨c,h3,?_,Nat.lt_succ_self _⟩,hrel⟩
     rw [h4,at_,hnew]
    ·cases h
   ·cases h
  ·cases h
noncomputable def x23:X:=X.or x23a (inlX (tabX true [] []) 1000 Try.f23)
theorem x23_ok:XOk Try.prog 23 x23:=X.or_ok x23a_ok (inlX_ok (tabX_ok noPrims_ok xnil_ok) 1000 Try.func23 (by kernel_rfl))
theorem XsOk.app {a b:List (Nat × X)} (ha:XsOk a) (hb:XsOk b):XsOk (a ++ b):=fun f g h=>by
 rcases List.mem_append.1 h with h | h
 ·exact ha f g h
 ·exact hb f g h
end P224
/- Several new regions at once. -/
namespace P224
open Go Go.RowKit Go.Proofs
set_option maxRecDepth 100000
set_option linter.unusedVariables false
section
variable {s:Nums} {β:Places} {F:Fix} {w0:World} {st:St} {a:Act} {w:World}
theorem Rel.add (h:Rel F s β w0 st a w) {b:Nat} (hb1:w0.heap.size≤b) (hb2:b<w.heap.size) (hne:∀ r,F.nold≤r→r<st.nr→(β r).1≠b) {l:List A0}
  (hl:∀ (j:Nat) (x:A0),l[j]?=some x→∃ v,w.cell? ⟨b,j,none⟩=some v∧∀ β',Agree β β' st.nr→β' st.nr=(b,0)→x.rep s β' (st.nr+1) v) (hfz:∀ j,j<l.length→w.frozen? ⟨b,j,none⟩=false) :
  ∃ β',Agree β β' st.nr∧β' st.nr=(b,0)∧Rel F s β' w0 { st with mem:=(st.nr,l) :: st.mem,nr:=st.nr+1 } a w:=by
 let β':Places:=fun r=>if r=st.nr then (b,0) else β r
 have hag:Agree β β' st.nr:=fun r hr=>by simp only [β']; rw [if_neg (by omega)]
 have hnew:β' st.nr=(b,0):=by simp only [β',if_true]
 have hle:st.nr≤st.nr+1:=Nat.le_succ _
 have hb:∀ r,r<st.nr→β' r=β r:=hag
 refine ⟨β',hag,hnew,?_⟩
 refine { size:=h.size,defs:=h.defs,tm:=fun t x hx=>AV.rep_mono hag hle (h.tm t x hx),mem:=?_,frz:=?_,fresh:=?_,dist:=?_,old:=?_,sep:=?_,nold:=Nat.le_trans h.nold hle,outs:=?_,below:=?_,dec:=h.dec,it:=?_,np:=h.npAgree hag }
 ·intro r k hk
  simp only [lookup] at hk
  cases hq:(st.nr == r) with
  | true =>
   have:=beq_iff_eq.1 hq
   subst this
   rw [hq,cond_true] at hk
   cases hk
   refine ⟨Nat.lt_succ_self _,fun j x hx=>?_⟩
   obtain ⟨v,hv,hr⟩:=hl j x hx
   refine ⟨v,?_,hr _ hag hnew⟩
   rw [at_,hnew]
   simp only [Nat.zero_add]
   exact hv
  | false =>
   rw [hq,cond_false] at hk
   obtain ⟨hr,hc⟩:=h.mem r k hk
   refine ⟨Nat.lt_succ_of_lt hr,fun j x hx=>?_⟩
   obtain ⟨v,hv1,hv2⟩:=hc j x hx
   refine ⟨v,?_,A0.rep_mono hag hle hv2⟩
   rw [at_,hb r hr]
   exact hv1
 ·intro r k hk hw j hj
  simp only [lookup] at hk
  cases hq:(st.nr == r) with
  | true =>
   have:=beq_iff_eq.1 hq
   subst this
   rw [hq,cond_true] at hk
   cases hk
   rw [at_,hnew]
   simp only [Nat.zero_add]
   exact hfz j hj
  | false =>
   rw [hq,cond_false] at hk
   obtain ⟨hr,_⟩:=h.mem r k hk
   rw [at_,hb r hr]
   exact h.frz r k hk hw j hj
 ·intro r h1 h2
  simp only at h2
  by_cases hr:r<st.nr
  ·rw [hb r hr]
   exact h.fresh r h1 hr
  ·have:r=st.nr:=by omega
   subst this
   rw [hnew]
   exact ⟨hb1,hb2,rfl⟩
 ·intro r q h1 h2 h3 h4 hrq
  simp only at h3 h4
  by_cases hr:r<st.nr
  ·by_cases hq:q<st.nr
   ·rw [hb r hr,hb q hq]
    exact h.dist r q h1 h2 hr hq hrq
   ·have:q=st.nr:=by omega
    subst this
    rw [hb r hr,hnew]
    exact hne r h1 hr
  ·have:r=st.nr:=by omega
   subst this
   have hq:q<st.nr:=by omega
   rw [hb q hq,hnew]
   exact fun e=>hne q h2 hq e.symm
 ·intro r hr
  rw [hb r (Nat.lt_of_lt_of_le hr h.nold)]
  exact h.old r hr
 ·intro r q hr hq hs
  rw [hb r (Nat.lt_of_lt_of_le hr h.nold),hb q (Nat.lt_of_lt_of_le hq h.nold)]
  exact h.sep r q hr hq hs
 ·intro e he
  obtain ⟨h1,v,h2⟩:=h.outs e he
  exact ⟨h1,v,A0.rep_mono hag hle h2⟩
 ·show Below w0.heap.size (applyOut s β' w0 st.out) _
  rw [applyOut_mono hag h.nold w0 st.out h.outs]
  exact h.below
 ·intro r b' p hl'
  obtain ⟨i1,i2,i3,i4⟩:=h.it r b' p hl'
  refine ⟨i1,Nat.lt_succ_of_lt i2,?_,by rw [hb r i2]; exact i4⟩
  simp only [lookup]
  cases hq:(st.nr == r) with
  | true =>
   have:=beq_iff_eq.1 hq
   omega
  | false=>rw [cond_false]; exact i3
theorem Rel.far_from (h:Rel F s β w0 st a w) {b B:Nat} (hB:w.heap.size≤b):∀ r,F.nold≤r→r<st.nr→(β r).1≠b:=fun r _ h2 e=>by
 have:=h.block_lt h2
 omega
theorem l32s_cells {i b x:Nat} (h:El w b 0 x) (hs:s i=x) (j:Nat) (y:A0) (hy:(l32s i)[j]?=some y):∃ v,w.cell? ⟨b,j,none⟩=some v∧∀ (β':Places) n,y.rep s β' n v:=by
 have hj:j<7:=by
  have:=(List.getElem?_eq_some_iff.1 hy).1
  simpa [l32s] using this
 rw [l32s,List.getElem?_map,List.getElem?_range hj] at hy
 cases hy
 refine ⟨_,by have:=h.1 j hj; rw [Nat.zero_add] at this; exact this,fun β' n=>⟨?_,?_⟩⟩
 ·rw [hs]; rfl
 ·rw [hs]; exact h.2
theorem limbs_cells {i b x:Nat} (h:ElemAt w b 0 x) (hs:s i=x) (hx:x<pq) (j:Nat) (y:A0) (hy:(limbs i)[j]?=some y):∃ v,w.cell? ⟨b,j,none⟩=some v∧∀ (β':Places) n,y.rep s β' n v:=by
 have key:∀ k,k<4→∃ v,w.cell? ⟨b,k,none⟩=some v∧∀ (β':Places) n,(A0.limb i k).rep s β' n v:=fun k hk=>by
  refine ⟨_,by have:=h k hk; rw [Nat.zero_add] at this; exact this,fun β' n=>⟨?_,?_⟩⟩
  ·rw [hs]
  ·rw [hs]; exact hx
 match j,hy with
 | 0,hy=>cases hy; exact key 0 (by decide)
 | 1,hy=>cases hy; exact key 1 (by decide)
 | 2,hy=>cases hy; exact key 2 (by decide)
 | 3,hy=>cases hy; exact key 3 (by decide)
 | j+4,hy=>cases hy
def NewEls (w:World) (x y:Nat) (bx b2:Nat) (w':World):Prop :=
 w.heap.size≤bx∧bx<w'.heap.size∧w.heap.size≤b2∧b2<w'.heap.size∧bx≠b2∧El w' bx 0 x∧El w' b2 0 y∧(∀ k,k<7→w'.frozen? ⟨bx,k,none⟩=false)∧(∀ k,k<7→w'.frozen? ⟨b2,k,none⟩=false)∧Below w.heap.size w w'
theorem Rel.els (h:Rel F s β w0 st a w) {x y bx b2 i j:Nat} {w':World} (hn:NewEls w x y bx b2 w') (hi:s i=x) (hj:s j=y) :
  ∃ β',Agree β β' st.nr∧β' st.nr=(bx,0)∧β' (st.nr+1)=(b2,0)∧Rel F s β' w0 { st with mem:=(st.nr+1,l32s j) :: (st.nr,l32s i) :: st.mem,nr:=st.nr+2 } a w':=by
 obtain ⟨h1,h2,h3,h4,h5,h6,h7,h8,h9,h10⟩:=hn
 have hsz:=h.size_le
 have f1:=h.far_from (B:=0) h1
 have f2:=h.far_from (B:=0) h3
 have hk:=h.kept h10
 obtain ⟨β1,g1,g2,g3⟩:=hk.add (Nat.le_trans hsz h1) h2 f1 (l:=l32s i) (fun k z hz=>by
  obtain ⟨v,u1,u2⟩:=l32s_cells h6 hi k z hz
  exact ⟨v,u1,fun β' _ _=>u2 β' _⟩) (fun k hk=>h8 k (by simpa [l32s] using hk))
 obtain ⟨β2,e1,e2,e3⟩:=g3.add (Nat.le_trans hsz h3) h4 (fun r hr1 hr2=>by
  by_cases hr:r<st.nr
  ·rw [g1 r hr]; exact f2 r hr1 hr
  ·have hr2':r<st.nr+1:=hr2
   have:r=st.nr:=by omega
   subst this
   rw [g2]
   exact h5) (l:=l32s j) (fun k z hz=>by
  obtain ⟨v,u1,u2⟩:=l32s_cells h7 hj k z hz
  exact ⟨v,u1,fun β' _ _=>u2 β' _⟩) (fun k hk=>h9 k (by simpa [l32s] using hk))
 exact ⟨β2,g1.trans e1 (Nat.le_succ _),by rw [e1 st.nr (Nat.lt_succ_self _),g2],e2,e3⟩
end
end P224
