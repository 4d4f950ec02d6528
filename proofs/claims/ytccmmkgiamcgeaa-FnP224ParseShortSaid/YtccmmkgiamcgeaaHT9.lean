/- A store of cells of which nothing is known: their region is forgotten. -/
import Derived.Test.YtccmmkgiamcgeaaHP1
set_option linter.all false
namespace P224
open Go Go.RowKit Go.Proofs
set_option maxRecDepth 100000
set_option linter.unusedVariables false
theorem lookup_without {r q:Nat}:∀ {m:List (Nat × List A0)} {k:List A0},lookup q (m.filter fun e=>e.1 != r)=some k→q≠r∧lookup q m=some k
 | [],k,h=>by cases h
 | (p,l) :: m,k,h=>by
  by_cases hp:p=r
  ·subst hp
   rw [List.filter_cons,if_neg (by simp)] at h
   obtain ⟨h1,h2⟩:=lookup_without h
   refine ⟨h1,?_⟩
   rw [lookup,show (p == q)=false from beq_eq_false_iff_ne.2 (fun e=>h1 e.symm),cond_false]
   exact h2
  ·rw [List.filter_cons,if_pos (by simp [hp])] at h
   rw [lookup] at h ⊢
   cases hq:(p == q) with
   | true =>
    have:=beq_iff_eq.1 hq
    subst this
    rw [hq,cond_true] at h
    exact ⟨hp,h⟩
   | false =>
    rw [hq,cond_false] at h
    exact lookup_without h
theorem lookup_without_none {r q:Nat}:∀ {m:List (Nat × List A0)},lookup q m=none→lookup q (m.filter fun e=>e.1 != r)=none:=by
 intro m h
 cases hk:lookup q (m.filter fun e=>e.1 != r) with
 | none=>rfl
 | some k=>rw [(lookup_without hk).2] at h; cases h
section
variable {s:Nums} {β:Places} {F:Fix} {w0:World} {st:St} {a:Act} {w:World}
theorem Rel.forget (h:Rel F s β w0 st a w) {r o:Nat} {vs:List Value} {l:List A0} (hl:lookup r st.mem=some l) (hn:F.nold≤r) :
  Rel F s β w0 { st with mem:=st.mem.filter fun e=>e.1 != r } a (w.setCells (β r).1 ((β r).2+o) vs):=by
 obtain ⟨hrn,_⟩:=h.mem r l hl
 have apart:∀ q,q<st.nr→q≠r→(β q).1≠(β r).1:=fun q hq hne=>by
  by_cases h1:F.nold≤q
  ·exact h.dist q r h1 hn hq hrn hne
  ·have a1:=h.old q (by omega)
   have a2:=(h.fresh r hn hrn).1
   omega
 refine { size:=h.size,defs:=h.defs,tm:=h.tm,mem:=?_,frz:=?_,fresh:=?_,dist:=h.dist,old:=h.old,sep:=h.sep,nold:=h.nold,outs:=h.outs,below:=?_,dec:=h.dec,it:=?_,np:=h.np }
 ·intro q k hk
  obtain ⟨hne,hk'⟩:=lookup_without hk
  obtain ⟨hqn,hqc⟩:=h.mem q k hk'
  refine ⟨hqn,fun j x hx=>?_⟩
  obtain ⟨v,hv1,hv2⟩:=hqc j x hx
  refine ⟨v,?_,hv2⟩
  rw [World.cell?_setCells_out _ _ _ _ _ (fun e _=>absurd e (apart q hqn hne))]
  exact hv1
 ·intro q k hk hq j hj
  obtain ⟨hne,hk'⟩:=lookup_without hk
  rw [World.frozen?_setCells]
  exact h.frz q k hk' hq j hj
 ·intro q h1 h2
  have:=h.fresh q h1 h2
  exact ⟨this.1,by rw [setCells_size]; exact this.2.1,this.2.2⟩
 ·exact below_setCells_past h.below (h.fresh r hn hrn).1 _ _
 ·intro q b' p hq
  obtain ⟨i1,i2,i3,i4⟩:=h.it q b' p hq
  have hne:q≠r:=by
   intro e
   subst e
   rw [i3] at hl
   cases hl
  refine ⟨i1,i2,lookup_without_none i3,?_⟩
  rw [setCells_other _ _ ?_]
  ·exact i4
  ·exact apart q i2 hne
end
def isAc:A0→Bool
 | .ac=>true
 | _=>false
theorem isAc_rep {s:Nums} {β:Places} {n:Nat} {x:A0} {v:Value} (h:isAc x=true) (hr:x.rep s β n v):v.oneCell'=true:=by
 cases x <;> first | exact hr | (cases h; done)
def lForget (T:TypeId→Option (Bool × Nat)):Lx:=fun F st op=>match op with
 | .store t a x=>match st.ev a,st.ev x,T t with
  | .one (.ptr r o),.agg l,some (_,n)=>match lookup r st.mem with
   | some k=>bif l.all isAc && decide (l.length=n) && decide (1≤n) && decide (F.nold≤r) && decide (o+n≤k.length) then some (.one .any,{ st with mem:=st.mem.filter fun e=>e.1 != r }) else none
   | none=>none
  | _,_,_=>none
 | _=>none
theorem lForget_ok {P:Program} {T:TypeId→Option (Bool × Nat)} (hT:∀ t g n,T t=some (g,n)→(∀ w,(isAgg t).run P w=.ok g w)∧∃ i,P.info? t=some i∧i.size=n):LextOk P (lForget T):=by
 refine ⟨fun {F st st' op av} hq=>?_,fun {s β F w0 st st' a w o av} h hq hH=>?_⟩
 ·unfold lForget at hq
  split at hq
  ·split at hq
   ·split at hq
    ·obtain ⟨_,h2⟩:=bif_some hq
     cases h2
     exact ⟨⟨[],rfl,rfl⟩,Nat.le_refl _⟩
    ·cases hq
   ·cases hq
  ·cases hq
 ·intro next Q hn
  unfold lForget at hq
  split at hq
  ·rename_i t ad x ho
   split at hq
   ·rename_i r d l g n hr hx hvar
    split at hq
    ·rename_i k hk
     obtain ⟨hd,h2⟩:=bif_some hq
     cases h2
     simp only [Bool.and_eq_true,decide_eq_true_eq,List.all_eq_true] at hd
     obtain ⟨⟨⟨⟨hac,hln⟩,hn1⟩,hno⟩,hlen⟩:=hd
     have hp:=ev_rep h.tm ad
     rw [hr] at hp
     have hvx:=ev_rep h.tm x
     rw [hx] at hvx
     obtain ⟨vs,hval,hvl,hrep⟩:=hvx
     obtain ⟨_,i,hi,hsz⟩:=hT _ _ _ hvar
     obtain ⟨hrn,hcl⟩:=h.mem r k hk
     have hst:(storeCells (at_ β r d) vs 0).run P w=.ok () (w.setCells (β r).1 ((β r).2+d) vs):=by
      have:=run_storeCells_cells (P:=P) (β r).1 ((β r).2+d) vs 0 w
       (fun j hj=>by
        obtain ⟨y,hy⟩:∃ y,k[d+j]?=some y:=⟨k[d+j]'(by omega),List.getElem?_eq_getElem _⟩
        obtain ⟨v,hv1,_⟩:=hcl (d+j) y hy
        rw [at_,← Nat.add_assoc] at hv1
        rw [Nat.add_zero,hv1]; rfl)
       (fun j hj=>by
        have:=h.frz r k hk (.inl hno) (d+j) (by omega)
        rw [at_,← Nat.add_assoc] at this
        rw [Nat.add_zero]
        exact this)
       (fun v hv=>by
        obtain ⟨j,hj⟩:=List.getElem?_of_mem hv
        have hjl:=(List.getElem?_eq_some_iff.1 hj).1
        obtain ⟨y,hy⟩:∃ y,l[j]?=some y:=⟨l[j]'(by omega),List.getElem?_eq_getElem _⟩
        exact isAc_rep (hac y (List.mem_of_getElem? hy)) (hrep j y v hy hj))
      rw [Nat.add_zero] at this
      exact this
     have hrun:(execOp a.eval o).run P w=.ok .skip (w.setCells (β r).1 ((β r).2+d) vs):=by
      have hvn:vs.length=n:=by omega
      simp only [execOp,ho,hp.1,hval,Instr.storeAt,Instr.sureAddr,Sem.run_bind,Sem.run_pure,Result.andThen,storeVar,run_size hi,hsz,Value.cells]
      simp [hst,hvn]
     unfold Oper.wp
     rw [hrun]
     exact hn _ _ ⟨β,Agree.refl _ _,trivial,h.forget hk hno⟩
    ·cases hq
   ·cases hq
  ·cases hq
def tabZ (xs:List (Nat × X)):Tab:={ tabX true pointPrims xs with lext:=Lx.or (lForget (tabOf true pointPrims).var) (Lx.or (lCalls xs) (lBld bldT)) }
theorem tabZ_ok {xs:List (Nat × X)} (hx:∀ f g,(f,g) ∈ xs→XOk Try.prog f g):(tabZ xs).Ok Try.prog :=
 let h:=tabX_ok (asElem:=true) pointPrims_ok hx
 {
  mixed:=h.mixed,arr:=h.arr,fld:=h.fld,var:=h.var,zero:=h.zero,bld:=h.bld,slc:=h.slc,mks:=h.mks,kind:=h.kind,elem:=h.elem,prim:=h.prim,qext:=h.qext
  lext:=LextOk.or (lForget_ok h.var) (LextOk.or (lCalls_ok hx) (lBld_ok bldT_ok)) }
end P224
/- What a slice of bytes can be: a point or not, in plain words. -/
namespace P224
open Go Go.RowKit Go.Proofs
set_option maxRecDepth 100000
set_option linter.unusedVariables false
def vsF (k:Nat):List Wd:=(List.range 28).map fun i=>.v (k+i)
theorem isPt_other {l:List Nat} (h1:l.length≠1) (h2:l.length≠57):isPt l=0:=by
 unfold isPt
 rw [if_neg (fun e=>h1 (by rw [e]; rfl)),if_neg (fun e=>h2 e.1)]
theorem isPt_one (z:Nat):isPt [z]=if z=0 then 1 else 0:=by
 unfold isPt
 by_cases h:z=0
 ·subst h; rw [if_pos rfl,if_pos rfl]
 ·rw [if_neg (fun e=>h (by injection e)),if_neg (fun e=>by simp at e),if_neg h]
theorem isPt_first {z:Nat} {l:List Nat} (h:z≠4) (hl:l.length=56):isPt (z :: l)=0:=by
 unfold isPt
 rw [if_neg (fun e=>by injection e with _ e; rw [e] at hl; cases hl),if_neg (fun e=>h (by have:=e.2.1; simpa using this))]
theorem isPt_four {l:List Nat} (hl:l.length=56):isPt (4 :: l)=if ofBytes (l.take 28)<pq∧ofBytes (l.drop 28)<pq then onN (ofBytes (l.take 28)) (ofBytes (l.drop 28)) else 0:=by
 unfold isPt
 have e1:(4 :: l).drop 1=l:=rfl
 have e2:(4 :: l).drop 29=l.drop 28:=rfl
 rw [if_neg (fun e=>by injection e with e _; cases e),e1,e2]
 by_cases h:ofBytes (l.take 28)<pq∧ofBytes (l.drop 28)<pq
 ·rw [if_pos h,if_pos ⟨by rw [List.length_cons,hl],rfl,h⟩]
 ·rw [if_neg h,if_neg (fun e=>h e.2.2)]
theorem isPt_le (l:List Nat):isPt l≤1:=by
 unfold isPt
 split
 ·decide
 ·split
  ·exact onN_le _ _
  ·decide
inductive Kinds (w:World) (b o n f:Nat):Prop where
 | other (h1:n≠1) (h2:n≠57) (hf:f=0)
 | one (z:Nat) (hn:n=1) (hc:w.cell? ⟨b,o,none⟩=some (.int .u8 (z:Int))) (hz:z<256) (hf:f=if z=0 then 1 else 0)
 | first (g:Nat→Nat) (hn:n=57) (hc:∀ k,k<57→w.cell? ⟨b,o+k,none⟩=some (.int .u8 (g k:Int))∧g k<256) (h4:g 0≠4) (hf:f=0)
 | big (g:Nat→Nat) (hn:n=57) (h4:w.cell? ⟨b,o,none⟩=some (.int .u8 4)) (hc:∀ k,k<56→w.cell? ⟨b,o+1+k,none⟩=some (.int .u8 (g k:Int))∧g k<256)
  (hb:¬ (ofBytes (rowF fun i=>g (0+i))<pq∧ofBytes (rowF fun i=>g (28+i))<pq)) (hf:f=0)
 | pair (x y:Nat) (hn:n=57) (hp:PtBytes w b o x y) (hx:x<pq) (hy:y<pq) (hf:f=onN x y)
theorem rowF_by8 {L:List Nat} (h:L.length=28) (hL:∀ x ∈ L,x<256):(List.range 28).map (fun k=>by8 (27 - k) (ofBytes L))=L:=by
 apply List.ext_getElem?
 intro k
 rw [List.getElem?_map]
 by_cases hk:k<28
 ·have e:=ofBytes_by8 L k hL (by omega)
  rw [h,show 28 - 1 - k=27 - k by omega] at e
  rw [List.getElem?_range hk,Option.map_some,e,List.getD_eq_getElem?_getD]
  obtain ⟨z,hz⟩:∃ z,L[k]?=some z:=⟨L[k]'(by omega),List.getElem?_eq_getElem _⟩
  rw [hz]; rfl
 ·rw [List.getElem?_eq_none (by simp; omega),List.getElem?_eq_none (by omega)]; rfl
theorem Flag.kinds {w:World} {b o n f:Nat} (h:Flag w (b,o) n f):Kinds w b o n f:=by
 obtain ⟨l,hl,hlt,hc,rfl⟩:=h
 by_cases h1:n=1
 ·match l,hl with
  | [z],_=>exact .one z h1 (hc 0 z rfl) (hlt z (by simp)) (isPt_one z)
  | [],hl=>rw [h1] at hl; cases hl
  | _ :: _ :: _,hl=>rw [h1] at hl; simp at hl
 by_cases h57:n=57
 ·match l,hl,hlt,hc with
  | [],hl,_,_=>rw [h57] at hl; cases hl
  | z :: l,hl,hlt,hc =>
  have hl56:l.length=56:=by rw [h57] at hl; simpa using hl
  by_cases hz:z=4
  ·subst hz
   rw [isPt_four hl56]
   have t1:(l.take 28).length=28:=by rw [List.length_take]; omega
   have t2:(l.drop 28).length=28:=by rw [List.length_drop]; omega
   have g1:∀ x ∈ l.take 28,x<256:=fun x hx=>hlt x (List.mem_cons_of_mem _ (List.mem_of_mem_take hx))
   have g2:∀ x ∈ l.drop 28,x<256:=fun x hx=>hlt x (List.mem_cons_of_mem _ (List.mem_of_mem_drop hx))
   by_cases hb:ofBytes (l.take 28)<pq∧ofBytes (l.drop 28)<pq
   ·rw [if_pos hb]
    refine .pair _ _ h57 (fun k z hz=>hc k z ?_) hb.1 hb.2 rfl
    rw [pvals,rowF_by8 t1 g1,rowF_by8 t2 g2,List.take_append_drop] at hz
    exact hz
   ·rw [if_neg hb]
    have e1:rowF (fun i=>l.getD (0+i) 0)=l.take 28:=by
     rw [← rowF_of t1]
     refine rowF_congr fun k hk=>?_
     rw [List.getD_eq_getElem?_getD,List.getD_eq_getElem?_getD,List.getElem?_take_of_lt hk,Nat.zero_add]
    have e2:rowF (fun i=>l.getD (28+i) 0)=l.drop 28:=by
     rw [← rowF_of t2]
     refine rowF_congr fun k hk=>?_
     rw [List.getD_eq_getElem?_getD,List.getD_eq_getElem?_getD,List.getElem?_drop]
    refine .big (fun k=>l.getD k 0) h57 (hc 0 4 rfl) (fun k hk=>?_) (by rw [e1,e2]; exact hb) rfl
    obtain ⟨u,hu⟩:∃ u,l[k]?=some u:=⟨l[k]'(by omega),List.getElem?_eq_getElem _⟩
    have e:l.getD k 0=u:=by rw [List.getD_eq_getElem?_getD,hu]; rfl
    rw [e,show o+1+k=o+(k+1) by omega]
    exact ⟨hc (k+1) u hu,hlt u (List.mem_cons_of_mem _ (List.mem_of_getElem? hu))⟩
  ·rw [isPt_first hz hl56]
   refine .first (fun k=>(z :: l).getD k 0) h57 (fun k hk=>?_) (by simpa using hz) rfl
   obtain ⟨u,hu⟩:∃ u,(z :: l)[k]?=some u:=⟨(z :: l)[k]'(by rw [List.length_cons]; omega),List.getElem?_eq_getElem _⟩
   have e:(z :: l).getD k 0=u:=by rw [List.getD_eq_getElem?_getD,hu]; rfl
   rw [e]
   exact ⟨hc k u hu,hlt u (List.mem_of_getElem? hu)⟩
 ·rw [isPt_other (by omega) (by omega)]
  exact .other h1 h57 rfl
end P224
/- The reference's Read of whatever bytes: a call that tells whether they are a point. -/
namespace P224
open Go Go.RowKit Go.Proofs
set_option maxRecDepth 100000
set_option linter.unusedVariables false
end P224
/- The reference's Read of whatever bytes: the contract. -/
namespace P224
open Go Go.RowKit Go.Proofs
set_option maxRecDepth 100000
set_option linter.unusedVariables false
end P224
/- The reference's Read of whatever bytes, as a call that the executor knows; the laws' table. -/
namespace P224
open Go Go.RowKit Go.Proofs
set_option maxRecDepth 100000
set_option linter.unusedVariables false
theorem Flag.below {w0 w:World} {p:Nat × Nat} {n f:Nat} (h:Flag w0 p n f) (hb:Below w0.heap.size w0 w) (hp:p.1<w0.heap.size):Flag w p n f:=by
 obtain ⟨l,h1,h2,h3,h4⟩:=h
 refine ⟨l,h1,h2,fun k z hz=>?_,h4⟩
 rw [hb.cell (p:=⟨p.1,p.2+k,none⟩) hp]
 exact h3 k z hz
theorem Flag.le {w:World} {p:Nat × Nat} {n f:Nat} (h:Flag w p n f):f≤1:=by
 obtain ⟨l,_,_,_,rfl⟩:=h
 exact isPt_le l
end P224
/- A slice of bytes that came in, as the executor is told of it. -/
namespace P224
open Go Go.RowKit Go.Proofs
set_option maxRecDepth 100000
set_option linter.unusedVariables false
structure Sl (w:World) (v:Value) (b o n u d f:Nat):Prop where
 eq:v=if d=1 then .slice none 0 0 else .slice (some ⟨b,o,none⟩) n u
 le:n≤u
 nil:d=1→n=0
 lt:b<w.heap.size
 n63:n<2 ^ 63
 flag:Flag w (b,o) n f
theorem Sl.rep {w:World} {v:Value} {b o n u d f:Nat} (h:Sl w v b o n u d f) {s:Nums} {β:Places} {nr r i:Nat} (hβ:β r=(b,o)) (hr:r<nr) (h0:s i=n) (h1:s (i+1)=u) (h2:s (i+2)=d):(A0.sy r i).rep s β nr v:=by
 refine ⟨?_,hr,by rw [h0]; exact h.n63,by rw [h0,h1]; exact h.le,by rw [h0,h2]; exact h.nil⟩
 rw [syV,h0,h1,h2,h.eq,at_,hβ]
 rfl
theorem Sl.np {w:World} {v:Value} {b o n u d f:Nat} (h:Sl w v b o n u d f) {s:Nums} {β:Places} {r i j:Nat} (hβ:β r=(b,o)) (h0:s i=n) (h1:s j=f):Flag w (β r) (s i) (s j):=by
 rw [hβ,h0,h1]
 exact h.flag
inductive PtOf (w:World) (v:Value):Prop where
 | far (b o c:Nat) (hv:v=.slice (some ⟨b,o,none⟩) 1 c) (hc:1≤c) (hp:w.cell? ⟨b,o,none⟩=some (.int .u8 0))
 | on (b o c x y:Nat) (hv:v=.slice (some ⟨b,o,none⟩) 57 c) (hc:57≤c) (hp:PtBytes w b o x y) (hx:x<pq) (hy:y<pq) (hon:onN x y=1)
def fixN (nt n:Nat) (d:List (Nat × Bool)) (np:List (Nat × (Nat × Nat))):Fix:={ nt:=nt,nold:=n,wr:=fun _=>false,sep:=fun _ _=>false,dec:=fun i=>findT i d,np:=fun r=>findT r np }
abbrev Law (f:Nat) (w:World) (vs:List Value):Prop:=Calls Try.prog f vs.toArray w fun e w'=>e=.returned (.bool true)∧Below w.heap.size w w'
end P224
