/- More operations of the executor: iterators over strings that are known. -/
import Derived.Test.YtccmmkgiamcgeaaGS1
import Derived.Test.YtccmmkgiamcgeaaGS7
set_option linter.all false
namespace P224
open Go Go.RowKit Go.Proofs
set_option maxRecDepth 100000
set_option linter.unusedVariables false
def lIter:Lx:=fun F st op=>match op with
 | .range t x=>match st.ev x with
  | .one (.lit (.string b))=>bif t == 9 then some (.one (.ptr st.nr 0),{ st with nr:=st.nr+1,it:=(st.nr,b,0) :: st.it }) else none
  | _=>none
 | .next x true=>match st.ev x with
  | .one (.ptr r 0)=>match lookupI r st.it with
   | some (b,p)=>bif decide (p<b.size) then some (.tup [.one (.lit (.bool true)),.one (.lit (goInt p)),.one (.lit (.int .i32 (Utf8.decode b p).1))],{ st with it:=(r,b,p+(Utf8.decode b p).2) :: st.it })
    else some (.tup [.one (.lit (.bool false))],st)
   | none=>none
  | _=>none
 | _=>none
theorem run_getObj_iter {P:Program} {w:World} {r:Nat} {b:ByteArray} {p:Nat} (h:w.heap[r]?=some (.stringIter b p)):(getObj r).run P w=.ok (.stringIter b p) w:=by
 simp [getObj,Sem.run,h]
theorem run_setObj_iter {P:Program} {w:World} {r:Nat} {b:ByteArray} {p:Nat} (o:Obj) (h:w.heap[r]?=some (.stringIter b p)):(setObj r o).run P w=.ok () { w with heap:=w.heap.setIfInBounds r o }:=by
 simp [setObj,Sem.run,h]
section
variable {s:Nums} {β:Places} {F:Fix} {w0:World} {st:St} {a:Act} {w:World}
theorem Rel.newIter (h:Rel F s β w0 st a w) (b:ByteArray) :
  ∃ β',Agree β β' st.nr∧β' st.nr=(w.heap.size,0)∧Rel F s β' w0 { st with nr:=st.nr+1,it:=(st.nr,b,0) :: st.it } a (w.alloc (.stringIter b 0)):=by
 let β':Places:=fun r=>if r=st.nr then (w.heap.size,0) else β r
 have hag:Agree β β' st.nr:=fun r hr=>by simp only [β']; rw [if_neg (by omega)]
 have hnew:β' st.nr=(w.heap.size,0):=by simp only [β',if_true]
 have hle:st.nr≤st.nr+1:=Nat.le_succ _
 have hb:∀ r,r<st.nr→β' r=β r:=hag
 have hblk:∀ k,k<w.heap.size→(w.alloc (.stringIter b 0)).heap[k]?=w.heap[k]?:=fun k hk=>Below.heap_alloc _ _ _ hk
 refine ⟨β',hag,hnew,?_⟩
 refine { size:=h.size,defs:=h.defs,tm:=fun t x hx=>AV.rep_mono hag hle (h.tm t x hx),mem:=?_,frz:=?_,fresh:=?_,dist:=?_,old:=?_,sep:=?_,nold:=Nat.le_trans h.nold hle,outs:=?_,below:=?_,dec:=h.dec,it:=?_,np:=h.npAgree hag }
 ·intro r l hl
  obtain ⟨hr,hc⟩:=h.mem r l hl
  refine ⟨Nat.lt_succ_of_lt hr,fun j x hx=>?_⟩
  obtain ⟨v,h1,h2⟩:=hc j x hx
  refine ⟨v,?_,A0.rep_mono hag hle h2⟩
  rw [at_,hb r hr]
  rw [at_] at h1
  rw [World.cell?_of_block (w:=w) (hblk _ (h.block_lt hr))]
  exact h1
 ·intro r l hl hw j hj
  obtain ⟨hr,_⟩:=h.mem r l hl
  rw [at_,hb r hr,World.frozen?_of_block (w:=w) (hblk _ (h.block_lt hr))]
  exact h.frz r l hl hw j hj
 ·intro r h1 h2
  rw [World.size_alloc]
  simp only at h2
  by_cases hr:r<st.nr
  ·rw [hb r hr]
   have:=h.fresh r h1 hr
   exact ⟨this.1,by omega,this.2.2⟩
  ·have:r=st.nr:=by omega
   subst this
   rw [hnew]
   exact ⟨h.size_le,Nat.lt_succ_self _,rfl⟩
 ·intro r q h1 h2 h3 h4 hne
  simp only at h3 h4
  by_cases hr:r<st.nr
  ·by_cases hq:q<st.nr
   ·rw [hb r hr,hb q hq]
    exact h.dist r q h1 h2 hr hq hne
   ·have:q=st.nr:=by omega
    subst this
    rw [hb r hr,hnew]
    have:=h.block_lt hr
    simp only; omega
  ·have:r=st.nr:=by omega
   subst this
   have hq:q<st.nr:=by omega
   rw [hb q hq,hnew]
   have:=h.block_lt hq
   simp only; omega
 ·intro r hr
  rw [hb r (Nat.lt_of_lt_of_le hr h.nold)]
  exact h.old r hr
 ·intro r q hr hq hs
  rw [hb r (Nat.lt_of_lt_of_le hr h.nold),hb q (Nat.lt_of_lt_of_le hq h.nold)]
  exact h.sep r q hr hq hs
 ·intro e he
  obtain ⟨h1,v,h2⟩:=h.outs e he
  exact ⟨h1,v,A0.rep_mono hag hle h2⟩
 ·show Below w0.heap.size (applyOut s β' w0 st.out) _
  rw [applyOut_mono hag h.nold w0 st.out h.outs]
  exact h.below.alloc h.size_le _
 ·intro r b' p hh
  simp only [lookupI] at hh
  cases hq:(st.nr == r) with
  | true =>
   have:=beq_iff_eq.1 hq
   subst this
   rw [hq,cond_true] at hh
   cases hh
   refine ⟨h.nold,Nat.lt_succ_self _,?_,?_⟩
   ·cases hm:lookup st.nr st.mem with
    | none=>rfl
    | some l=>exact absurd (h.mem _ l hm).1 (Nat.lt_irrefl _)
   ·rw [hnew]
    exact heap_alloc_new w _
  | false =>
   rw [hq,cond_false] at hh
   obtain ⟨i1,i2,i3,i4⟩:=h.it r b' p hh
   refine ⟨i1,Nat.lt_succ_of_lt i2,i3,?_⟩
   rw [hb r i2,hblk _ (h.block_lt i2)]
   exact i4
theorem Rel.goIter (h:Rel F s β w0 st a w) {r:Nat} {b:ByteArray} {p:Nat} (hi:lookupI r st.it=some (b,p)) (q:Nat) :
  Rel F s β w0 { st with it:=(r,b,q) :: st.it } a { w with heap:=w.heap.setIfInBounds (β r).1 (.stringIter b q) }:=by
 obtain ⟨i1,i2,i3,i4⟩:=h.it r b p hi
 have hlt:=h.block_lt i2
 have hother:∀ k,k≠(β r).1→({ w with heap:=w.heap.setIfInBounds (β r).1 (.stringIter b q) }:World).heap[k]?=w.heap[k]?:=fun k hk=>by
  show (w.heap.setIfInBounds (β r).1 (.stringIter b q))[k]?=_
  rw [Array.getElem?_setIfInBounds_ne (fun e=>hk e.symm)]
 have hsz:({ w with heap:=w.heap.setIfInBounds (β r).1 (.stringIter b q) }:World).heap.size=w.heap.size:=by
  show (w.heap.setIfInBounds (β r).1 (.stringIter b q)).size=_
  rw [Array.size_setIfInBounds]
 have hne:∀ q l,lookup q st.mem=some l→(β q).1≠(β r).1:=by
  intro q l hq
  have hqr:q≠r:=fun e=>by subst e; rw [i3] at hq; cases hq
  obtain ⟨hqn,_⟩:=h.mem q l hq
  by_cases hn:F.nold≤q
  ·exact h.dist q r hn i1 hqn i2 hqr
  ·have h1:=h.old q (by omega)
   have h2:=(h.fresh r i1 i2).1
   omega
 refine { size:=h.size,defs:=h.defs,tm:=h.tm,mem:=?_,frz:=?_,fresh:=?_,dist:=h.dist,old:=h.old,sep:=h.sep,nold:=h.nold,outs:=h.outs,below:=?_,dec:=h.dec,it:=?_,np:=h.np }
 ·intro q' l hl
  obtain ⟨hr',hc⟩:=h.mem q' l hl
  refine ⟨hr',fun j x hx=>?_⟩
  obtain ⟨v,h1,h2⟩:=hc j x hx
  refine ⟨v,?_,h2⟩
  rw [World.cell?_of_block (w:=w) (hother _ (hne q' l hl))]
  exact h1
 ·intro q' l hl hw j hj
  rw [World.frozen?_of_block (w:=w) (hother _ (hne q' l hl))]
  exact h.frz q' l hl hw j hj
 ·intro q' h1 h2
  rw [hsz]
  exact h.fresh q' h1 h2
 ·have hb:=h.below
  have hf:=(h.fresh r i1 i2).1
  refine ⟨hb.os,hb.tape,hb.output,by rw [hsz]; exact hb.size,fun k hk=>?_⟩
  rw [hother k (by omega)]
  exact hb.block k hk
 ·intro q' b' p' hh
  simp only [lookupI] at hh
  cases hq:(r == q') with
  | true =>
   have:=beq_iff_eq.1 hq
   subst this
   rw [hq,cond_true] at hh
   cases hh
   refine ⟨i1,i2,i3,?_⟩
   show (w.heap.setIfInBounds (β r).1 (.stringIter b q))[(β r).1]?=_
   rw [Array.getElem?_setIfInBounds_self_of_lt hlt]
  | false =>
   rw [hq,cond_false] at hh
   obtain ⟨j1,j2,j3,j4⟩:=h.it q' b' p' hh
   refine ⟨j1,j2,j3,?_⟩
   rw [hother _ (h.dist q' r j1 i1 j2 i2 (fun e=>by rw [e,beq_self_eq_true] at hq; cases hq))]
   exact j4
end
theorem lIter_ok:LextOk Try.prog lIter:=by
 refine ⟨fun {F st st' op av} hq=>?_,fun {s β F w0 st st' a w o av} hr hq hH=>?_⟩
 ·unfold lIter at hq
  split at hq
  ·split at hq
   ·obtain ⟨_,h2⟩:=bif_some hq
    cases h2
    exact ⟨⟨[],rfl,rfl⟩,Nat.le_succ _⟩
   ·cases hq
  ·split at hq
   ·split at hq
    ·rename_i b p _
     cases hd:decide (p<b.size) with
     | true=>rw [hd,cond_true] at hq; cases hq; exact ⟨⟨[],rfl,rfl⟩,Nat.le_refl _⟩
     | false=>rw [hd,cond_false] at hq; cases hq; exact .refl _
    ·cases hq
   ·cases hq
  ·cases hq
 ·intro next Q hn
  unfold lIter at hq
  split at hq
  ·rename_i t x ho
   split at hq
   ·rename_i b hx
    obtain ⟨ht,h2⟩:=bif_some hq
    cases h2
    have ht:=beq_iff_eq.1 ht
    subst ht
    have hxv:=ev_rep hr.tm x
    rw [hx] at hxv
    have hxv':a.eval x=.string b:=hxv
    obtain ⟨β',hag,hnew,hrel⟩:=hr.newIter b
    have hrun:(execOp a.eval o).run Try.prog w=.ok (.value (.pointer (some ⟨w.heap.size,0,none⟩))) (w.alloc (.stringIter b 0)):=by
     simp only [execOp,ho,hxv',Instr.range,Sem.run_bind,run_underlying Try.underlying9,Result.andThen,Sem.run_pure,run_newObj]
     rfl
    refine upon_value_ok hrun (hn _ _ ⟨β',hag,⟨?_,Nat.lt_succ_self _⟩,hrel⟩)
    rw [at_,hnew]
   ·cases hq
  ·rename_i x ho
   split at hq
   ·rename_i r hx
    split at hq
    ·rename_i b p hi
     have hxv:=ev_rep hr.tm x
     rw [hx] at hxv
     obtain ⟨i1,i2,i3,i4⟩:=hr.it r b p hi
     have f3:=(hr.fresh r i1 i2).2.2
     have hxv':a.eval x=.pointer (some ⟨(β r).1,0,none⟩):=by
      have:=hxv.1
      rw [at_,f3] at this
      exact this
     cases hd:decide (p<b.size) with
     | true =>
      rw [hd,cond_true] at hq
      cases hq
      have hlt:=of_decide_eq_true hd
      have hrun:(execOp a.eval o).run Try.prog w=.ok (.value (.tuple #[.bool true,goInt p,.int .i32 (Utf8.decode b p).1])) { w with heap:=w.heap.setIfInBounds (β r).1 (.stringIter b (p+(Utf8.decode b p).2)) }:=by
       simp only [execOp,ho,hxv',Instr.next,Sem.run_bind,run_getObj_iter i4,Result.andThen,hlt,if_true,run_setObj_iter _ i4,Sem.run_pure]
      exact upon_value_ok hrun (hn _ _ ⟨β,Agree.refl _ _,⟨[_,_,_],rfl,rfl,rfl,rfl,trivial⟩,hr.goIter hi _⟩)
     | false =>
      rw [hd,cond_false] at hq
      cases hq
      have hlt:=of_decide_eq_false hd
      have hrun:(execOp a.eval o).run Try.prog w=.ok (.value (.tuple #[.bool false])) w:=by
       simp only [execOp,ho,hxv',Instr.next,Sem.run_bind,run_getObj_iter i4,Result.andThen,hlt,if_false,Sem.run_pure]
      exact upon_value_ok hrun (hn _ _ ⟨β,Agree.refl _ _,⟨[_],rfl,rfl,trivial⟩,hr⟩)
    ·cases hq
   ·cases hq
  ·cases hq
def tabI (prims:List (Nat × Prim)) (xs:List (Nat × X)):Tab:={ tabX true prims xs with lext:=Lx.or lIter (Lx.or (lCalls xs) (lBld bldT)) }
theorem tabI_ok {prims:List (Nat × Prim)} {xs:List (Nat × X)} (hp:∀ f p,(f,p) ∈ prims→PrimOk Try.prog f p) (hx:∀ f g,(f,g) ∈ xs→XOk Try.prog f g):(tabI prims xs).Ok Try.prog :=
 let h:=tabX_ok (asElem:=true) hp hx
 {
  mixed:=h.mixed,arr:=h.arr,fld:=h.fld,var:=h.var,zero:=h.zero,bld:=h.bld,slc:=h.slc,mks:=h.mks,kind:=h.kind,elem:=h.elem,prim:=h.prim,qext:=h.qext
  lext:=LextOk.or lIter_ok (LextOk.or (lCalls_ok hx) (lBld_ok bldT_ok)) }
end P224
/- The reference's sum, difference and product of elements, as calls that the executor knows. -/
namespace P224
open Go Go.RowKit Go.Proofs
set_option maxRecDepth 100000
set_option linter.unusedVariables false
def isCurve (st:St):AV→Option (Nat × Nat)
 | .agg [a,b,c,.slc rf of 2 2]=>bif a.same (.lit (.int .i64 224)) && b.same (.lit (.int .i64 28)) && c.same (.lit (.int .i64 7)) then
   (match cellsAt st.mem rf of 4 with
   | some l=>bif sameAll l foldCells then some (rf,of) else none
   | none=>none) else none
 | _=>none
section
variable {s:Nums} {β:Places} {F:Fix} {w0:World} {st:St} {a:Act} {w:World}
theorem isCurve_rep (h:Rel F s β w0 st a w) {av:AV} {rf of:Nat} (hc:isCurve st av=some (rf,of)) {v:Value} (hv:av.rep s β st.nr v):v=curveV (β rf).1 ((β rf).2+of)∧FoldsAt w (β rf).1 ((β rf).2+of)∧rf<st.nr:=by
 unfold isCurve at hc
 split at hc
 ·rename_i x y z rf' of'
  obtain ⟨h1,h2⟩:=bif_some hc
  simp only [Bool.and_eq_true] at h1
  obtain ⟨⟨h1,h3⟩,h4⟩:=h1
  have h1:=A0.same_eq h1
  have h3:=A0.same_eq h3
  have h4:=A0.same_eq h4
  subst h1 h3 h4
  split at h2
  ·rename_i l hl
   obtain ⟨h5,h6⟩:=bif_some h2
   cases h6
   have h5:=sameAll_eq h5
   subst h5
   obtain ⟨vs,rfl,hlen,hr⟩:=hv
   match vs,hlen,hr with
   | [v0,v1,v2,v3],_,hr =>
   have r0:=hr 0 _ v0 rfl rfl
   have r1:=hr 1 _ v1 rfl rfl
   have r2:=hr 2 _ v2 rfl rfl
   have r3:=hr 3 _ v3 rfl rfl
   have r0':v0=.int .i64 224:=r0
   have r1':v1=.int .i64 28:=r1
   have r2':v2=.int .i64 7:=r2
   obtain ⟨k,hk,_,_,hj⟩:=cellsAt_ok (nr:=0) hl
   obtain ⟨hrn,hcl⟩:=h.mem rf k hk
   have get:∀ j,j<4→∀ x,foldCells[j]?=some (.lit x)→w.cell? ⟨(β rf).1,(β rf).2+of+j,none⟩=some x:=fun j hj4 x hx=>by
    obtain ⟨u,u1,u2⟩:=hcl (of+j) _ (by rw [← hj j hj4]; exact hx)
    have u2':u=x:=u2
    rw [u2',at_,← Nat.add_assoc] at u1
    exact u1
   refine ⟨by rw [r0',r1',r2',r3.1]; rfl,⟨?_,?_,?_,?_⟩,hrn⟩
   ·exact get 0 (by decide) _ rfl
   ·exact get 1 (by decide) _ rfl
   ·exact get 2 (by decide) _ rfl
   ·exact get 3 (by decide) _ rfl
  ·cases h2
 ·cases hc
theorem after_newEl (h:Rel F s β w0 st a w) {c R:Nat} {v:Value} {w':World} (hn:NewEl w c R v w') {e:Ex} (he:s st.nx=e.val s) (heR:e.val s=R) :
  After F s β w0 a st { st with mem:=(st.nr,l32s st.nx) :: st.mem,nr:=st.nr+1,nx:=st.nx+1,exs:=e :: st.exs } (.one (.slc st.nr 0 7 c)) v w':=by
 obtain ⟨b,h1,h2,h3,⟨h4,h5⟩,h6,h7⟩:=hn
 have hs:s st.nx=R:=by rw [he,heR]
 obtain ⟨β',hag,hnew,hrel⟩:=h.came h1 h2 h7 (l:=l32s st.nx) (fun j x hx=>by
  have hj:j<7:=by
   have:=(List.getElem?_eq_some_iff.1 hx).1
   simpa [l32s] using this
  rw [l32s,List.getElem?_map,List.getElem?_range hj] at hx
  cases hx
  refine ⟨_,by have:=h4 j hj; rw [Nat.zero_add] at this; exact this,fun β' n=>⟨?_,?_⟩⟩
  ·rw [hs]; rfl
  ·rw [hs]; exact h5) (fun j hj=>h6 j (by simpa [l32s] using hj)) (st.nx+1) (e :: st.exs)
 refine ⟨β',hag,⟨?_,Nat.lt_succ_self _⟩,hrel⟩
 rw [h3,at_,hnew]
end
def x2 (mk:Wd→Wd→Ex) (c:Nat):X:=fun F st args=>match args with
 | [cv,.one x,.one y]=>match isCurve st cv,x.asSl,y.asSl with
  | some _,some (r1,o1,7),some (r2,o2,7)=>match elS st.mem r1 o1,elS st.mem r2 o2 with
   | some l,some m=>some (.one (.slc st.nr 0 7 c),{ st with mem:=(st.nr,l32s st.nx) :: st.mem,nr:=st.nr+1,nx:=st.nx+1,exs:=mk l m :: st.exs })
   | _,_=>none
  | _,_,_=>none
 | _=>none
theorem x2_ok {g c:Nat} {mk:Wd→Wd→Ex} {f:Nat→Nat→Nat} (hmk:∀ (s:Nums) (l m:Wd),(mk l m).val s=f (l.val s) (m.val s))
  (hm:∀ (w:World) (bf of b1 o1 c1 b2 o2 c2 x y:Nat),7≤c1→7≤c2→FoldsAt w bf of→El w b1 o1 x→El w b2 o2 y →
   Meets Try.prog g #[curveV bf of,.slice (some ⟨b1,o1,none⟩) 7 c1,.slice (some ⟨b2,o2,none⟩) 7 c2] w (NewEl w c (f x y))):XOk Try.prog g (x2 mk c):=by
 refine ⟨fun {F st st' args av} h=>?_,fun {s β F w0 st st' a w args vs av} hr h hargs hH=>?_⟩
 ·unfold x2 at h
  split at h
  ·split at h
   ·split at h
    ·cases h; exact ⟨⟨[_],rfl,rfl⟩,Nat.le_succ _⟩
    ·cases h
   ·cases h
  ·cases h
 ·unfold x2 at h
  split at h
  ·rename_i cv x y
   split at h
   ·rename_i q r1 o1 r2 o2 hcv hx hy
    split at h
    ·rename_i l m hl hm'
     cases h
     obtain ⟨u0,u,v,rfl,hu0,hu,hv⟩:=avs3 hargs
     obtain ⟨rf,of⟩:=q
     obtain ⟨c0,c1,c2⟩:=isCurve_rep hr hcv hu0
     obtain ⟨⟨ca,hva,hca⟩,_⟩:=asSl_rep hx hu
     obtain ⟨⟨cb,hvb,hcb⟩,_⟩:=asSl_rep hy hv
     have hme:=hm w (β rf).1 ((β rf).2+of) (β r1).1 ((β r1).2+o1) ca (β r2).1 ((β r2).2+o2) cb _ _ hca hcb c1 (elS_rep hr hl) (elS_rep hr hm')
     intro o' a' next Q hn
     rw [c0,hva,hvb]
     exact hme o' a' next Q fun v' w' hnew=>hn _ _ (after_newEl hr hnew hH.1 (hmk s l m))
    ·cases h
   ·cases h
  ·cases h
theorem nat_emod (x:Nat):((x:Int) % pq).toNat=x % pq:=by
 rw [← Int.natCast_emod,Int.toNat_natCast]
def x71:X:=x2 .fadd 7
def x70:X:=x2 (fun l m=>.op 14 [l,m]) 7
def x59:X:=x2 .fmul 14
theorem x71_ok:XOk Try.prog 71 x71:=x2_ok (f:=fun x y=>(x+y) % pq) (fun _ _ _=>rfl) fun w bf of b1 o1 c1 b2 o2 c2 x y h1 h2 h3 h4 h5=>by
 have:=meets71 w bf of b1 o1 c1 b2 o2 c2 x y h1 h2 h3 h4 h5
 rw [← Int.natCast_add,nat_emod] at this
 exact this
theorem x70_ok:XOk Try.prog 70 x70:=x2_ok (f:=fun x y=>(((x:Int) - y) % pq).toNat) (fun _ _ _=>rfl) fun w bf of b1 o1 c1 b2 o2 c2 x y h1 h2 h3 h4 h5=>meets70 w bf of b1 o1 c1 b2 o2 c2 x y h1 h2 h3 h4 h5
theorem x59_ok:XOk Try.prog 59 x59:=x2_ok (f:=fun x y=>x*y % pq) (fun _ _ _=>rfl) fun w bf of b1 o1 c1 b2 o2 c2 x y h1 h2 h3 h4 h5=>meets59 w bf of b1 o1 c1 b2 o2 c2 x y h1 h2 h3 h4 h5
end P224
/- The reference's constants: numbers by their figures. -/
namespace P224
open Go Go.RowKit Go.Proofs
set_option maxRecDepth 100000
set_option linter.unusedVariables false
def strB:ByteArray:=⟨#[98,52,48,53,48,97,56,53,48,99,48,52,98,51,97,98,102,53,52,49,51,50,53,54,53,48,52,52,98,48,98,55,100,55,98,102,100,56,98,97,50,55,48,98,51,57,52,51,50,51,53,53,102,102,98,52]⟩
def numB:Nat:=18958286285566608000408668544493926415504680968679321075787234672564
def strO:ByteArray:=⟨#[102,102,102,102,102,102,102,102,102,102,102,102,102,102,102,102,102,102,102,102,102,102,102,102,102,102,102,102,49,54,97,50,101,48,98,56,102,48,51,101,49,51,100,100,50,57,52,53,53,99,53,99,50,97,51,100]⟩
def numO:Nat:=26959946667150639794667015087019625940457807714424391721682722368061
def strX:ByteArray:=⟨#[98,55,48,101,48,99,98,100,54,98,98,52,98,102,55,102,51,50,49,51,57,48,98,57,52,97,48,51,99,49,100,51,53,54,99,50,49,49,50,50,51,52,51,50,56,48,100,54,49,49,53,99,49,100,50,49]⟩
def numX:Nat:=19277929113566293071110308034699488026831934219452440156649784352033
def strY:ByteArray:=⟨#[98,100,51,55,54,51,56,56,98,53,102,55,50,51,102,98,52,99,50,50,100,102,101,54,99,100,52,51,55,53,97,48,53,97,48,55,52,55,54,52,52,52,100,53,56,49,57,57,56,53,48,48,55,101,51,52]⟩
def numY:Nat:=19926808758034470970197974370888749184205991990603949537637343198772
def litRow (N:Nat):List A0:=(List.range 7).map fun k=>.lit (.int .i64 (D N k:Int))
def st60 (b:ByteArray):St:=startSt [curveAV 0,.one (.lit (.string b))] [(0,foldCells)] 0 1
def b60 (N:Nat):BriefR:=⟨.ret,0,[],[],[.one (.slc 2 0 7 7)],[some (litRow N)]⟩
theorem tab60_ok:(tabI [] []).Ok Try.prog:=tabI_ok noPrims_ok xnil_ok
noncomputable def ok60 (b:ByteArray) (N:Nat):Bool:=briefRSame (briefR (tabI [] []) Try.f60 [2] (runF (tabI [] []) (fixD 50 1 [] [] []) 3000 Try.f60 (st60 b))) (b60 N)
theorem run60B:ok60 strB numB=true:=by kernel_rfl
theorem numB_lt:numB<pq:=by decide +kernel
theorem run60O:ok60 strO numO=true:=by kernel_rfl
theorem numO_lt:numO<pq:=by decide +kernel
theorem run60X:ok60 strX numX=true:=by kernel_rfl
theorem numX_lt:numX<pq:=by decide +kernel
theorem run60Y:ok60 strY numY=true:=by kernel_rfl
theorem numY_lt:numY<pq:=by decide +kernel
theorem meets60 {b:ByteArray} {N:Nat} (hok:ok60 b N=true) (hN:N<pq) (w:World) (bf of:Nat) (hfo:FoldsAt w bf of):Meets Try.prog 60 #[curveV bf of,.string b] w (NewEl w 7 N):=by
 refine meets_of_calls Try.func60 (by kernel_rfl) (by kernel_rfl) ?_
 have hb:=briefRSame_eq hok
 let β:Places:=fun _=>(bf,of)
 refine calls_briefR (F:=fixD 50 1 [] [] []) tab60_ok hb Try.func60 Try.ntmps60 rfl rfl (Nat.le_refl _) rfl (show 2≤50 by decide) (show 2<4095 by decide) (fun _=>0) β
  (vals:=[curveV bf of,.string b]) (fun s hs=>⟨curve_rep rfl (show 0<1 by decide),rfl,trivial⟩) (fun s hs=>⟨show 0<1 by decide,fold_row rfl hfo,trivial⟩) (fun r l hl hr=>by cases hr) (fun r _=>hfo.lt) (fun r q _ _ h=>by cases h) (fun _ _ _ i b h=>by cases h) ?_
 intro s hs hH st' β' a' w' v hv hm hag hr hbe
 have hl:lookup 2 st'.mem=some (litRow N):=by
  have:[lookup 2 st'.mem]=[some (litRow N)]:=hm
  simpa using this
 obtain ⟨hrn,hc⟩:=hr.mem 2 _ hl
 obtain ⟨f1,f2,f3⟩:=hr.fresh 2 (show 1≤2 by decide) hrn
 have hv':v=.slice (some (at_ β' 2 0)) 7 7:=hv.1
 have hget:∀ k,k<7→(litRow N)[k]?=some (.lit (.int .i64 (D N k:Int))):=fun k hk=>by
  rw [litRow,List.getElem?_map,List.getElem?_range hk]
  rfl
 refine ⟨v,rfl,(β' 2).1,f1,f2,?_,⟨fun k hk=>?_,Nat.lt_trans hN pq_lt224⟩,fun k hk=>?_,hbe⟩
 ·rw [hv',at_,f3]
 ·obtain ⟨u,u1,u2⟩:=hc k _ (hget k hk)
  have u2':u=.int .i64 (D N k:Int):=u2
  rw [u2',at_,f3] at u1
  exact u1
 ·have:=hr.frz 2 _ hl (.inl (show 1≤2 by decide)) k (by simp [litRow]; exact hk)
  rw [at_,f3,Nat.zero_add] at this
  exact this
def hexOf (b:ByteArray):Option Nat:=bif decide (b=strB) then some numB else bif decide (b=strO) then some numO else bif decide (b=strX) then some numX else bif decide (b=strY) then some numY else none
theorem hexOf_ok {b:ByteArray} {N:Nat} (h:hexOf b=some N):ok60 b N=true∧N<pq:=by
 unfold hexOf at h
 cases h1:decide (b=strB) with
 | true=>rw [h1,cond_true] at h; cases h; rw [of_decide_eq_true h1]; exact ⟨run60B,numB_lt⟩
 | false =>
  rw [h1,cond_false] at h
  cases h2:decide (b=strO) with
  | true=>rw [h2,cond_true] at h; cases h; rw [of_decide_eq_true h2]; exact ⟨run60O,numO_lt⟩
  | false =>
   rw [h2,cond_false] at h
   cases h3:decide (b=strX) with
   | true=>rw [h3,cond_true] at h; cases h; rw [of_decide_eq_true h3]; exact ⟨run60X,numX_lt⟩
   | false =>
    rw [h3,cond_false] at h
    cases h4:decide (b=strY) with
    | true=>rw [h4,cond_true] at h; cases h; rw [of_decide_eq_true h4]; exact ⟨run60Y,numY_lt⟩
    | false=>rw [h4,cond_false] at h; cases h
end P224
