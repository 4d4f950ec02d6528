/- A store of cells of which nothing is known: their region is forgotten. -/
import Derived.Test.YtccmmkgiamcgeaaGP1
set_option linter.all false
namespace P224
open Go Go.RowKit Go.Proofs
set_option maxRecDepth 100000
set_option linter.unusedVariables false
theorem lookup_without {r q:Nat}:∀ {m:List (Nat × List A0)} {k:List A0},lookup q (m.filter fun e=>e.1 != r)=some k→q≠r∧lookup q m=some k
 | [],k,h=>by cases h
 | (p,l) :: m,k,h=>by
  by_cases hp:p=r
  ·subst hp
   rw [List.filter_cons,if_neg (by simp)] at h
   obtain ⟨h1,h2⟩:=lookup_without h
   refine ⟨h1,?_⟩
   rw [lookup,show (p == q)=false from beq_eq_false_iff_ne.2 (fun e=>h1 e.symm),cond_false]
   exact h2
  ·rw [List.filter_cons,if_pos (by simp [hp])] at h
   rw [lookup] at h ⊢
   cases hq:(p == q) with
   | true =>
    have:=beq_iff_eq.1 hq
    subst this
    rw [hq,cond_true] at h
    exact ⟨hp,h⟩
   | false =>
    rw [hq,cond_false] at h
    exact lookup_without h
theorem lookup_without_none {r q:Nat}:∀ {m:List (Nat × List A0)},lookup q m=none→lookup q (m.filter fun e=>e.1 != r)=none:=by
 intro m h
 cases hk:lookup q (m.filter fun e=>e.1 != r) with
 | none=>rfl
 | some k=>rw [(lookup_without hk).2] at h; cases h
section
variable {s:Nums} {β:Places} {F:Fix} {w0:World} {st:St} {a:Act} {w:World}
theorem Rel.forget (h:Rel F s β w0 st a w) {r o:Nat} {vs:List Value} {l:List A0} (hl:lookup r st.mem=some l) (hn:F.nold≤r) :
  Rel F s β w0 { st with mem:=st.mem.filter fun e=>e.1 != r } a (w.setCells (β r).1 ((β r).2+o) vs):=by
 obtain ⟨hrn,_⟩:=h.mem r l hl
 have apart:∀ q,q<st.nr→q≠r→(β q).1≠(β r).1:=fun q hq hne=>by
  by_cases h1:F.nold≤q
  ·exact h.dist q r h1 hn hq hrn hne
  ·have a1:=h.old q (by omega)
   have a2:=(h.fresh r hn hrn).1
   omega
 refine { size:=h.size,defs:=h.defs,tm:=h.tm,mem:=?_,frz:=?_,fresh:=?_,dist:=h.dist,old:=h.old,sep:=h.sep,nold:=h.nold,outs:=h.outs,below:=?_,dec:=h.dec,it:=?_,np:=h.np }
 ·intro q k hk
  obtain ⟨hne,hk'⟩:=lookup_without hk
  obtain ⟨hqn,hqc⟩:=h.mem q k hk'
  refine ⟨hqn,fun j x hx=>?_⟩
  obtain ⟨v,hv1,hv2⟩:=hqc j x hx
  refine ⟨v,?_,hv2⟩
  rw [World.cell?_setCells_out _ _ _ _ _ (fun e _=>absurd e (apart q hqn hne))]
  exact hv1
 ·intro q k hk hq j hj
  obtain ⟨hne,hk'⟩:=lookup_without hk
  rw [World.frozen?_setCells]
  exact h.frz q k hk' hq j hj
 ·intro q h1 h2
  have:=h.fresh q h1 h2
  exact ⟨this.1,by rw [setCells_size]; exact this.2.1,this.2.2⟩
 ·exact below_setCells_past h.below (h.fresh r hn hrn).1 _ _
 ·intro q b' p hq
  obtain ⟨i1,i2,i3,i4⟩:=h.it q b' p hq
  have hne:q≠r:=by
   intro e
   subst e
   rw [i3] at hl
   cases hl
  refine ⟨i1,i2,lookup_without_none i3,?_⟩
  rw [setCells_other _ _ ?_]
  ·exact i4
  ·exact apart q i2 hne
end
def isAc:A0→Bool
 | .ac=>true
 | _=>false
theorem isAc_rep {s:Nums} {β:Places} {n:Nat} {x:A0} {v:Value} (h:isAc x=true) (hr:x.rep s β n v):v.oneCell'=true:=by
 cases x <;> first | exact hr | (cases h; done)
def lForget (T:TypeId→Option (Bool × Nat)):Lx:=fun F st op=>match op with
 | .store t a x=>match st.ev a,st.ev x,T t with
  | .one (.ptr r o),.agg l,some (_,n)=>match lookup r st.mem with
   | some k=>bif l.all isAc && decide (l.length=n) && decide (1≤n) && decide (F.nold≤r) && decide (o+n≤k.length) then some (.one .any,{ st with mem:=st.mem.filter fun e=>e.1 != r }) else none
   | none=>none
  | _,_,_=>none
 | _=>none
theorem lForget_ok {P:Program} {T:TypeId→Option (Bool × Nat)} (hT:∀ t g n,T t=some (g,n)→(∀ w,(isAgg t).run P w=.ok g w)∧∃ i,P.info? t=some i∧i.size=n):LextOk P (lForget T):=by
 refine ⟨fun {F st st' op av} hq=>?_,fun {s β F w0 st st' a w o av} h hq hH=>?_⟩
 ·unfold lForget at hq
  split at hq
  ·split at hq
   ·split at hq
    ·obtain ⟨_,h2⟩:=bif_some hq
     cases h2
     exact ⟨⟨[],rfl,rfl⟩,Nat.le_refl _⟩
    ·cases hq
   ·cases hq
  ·cases hq
 ·intro next Q hn
  unfold lForget at hq
  split at hq
  ·rename_i t ad x ho
   split at hq
   ·rename_i r d l g n hr hx hvar
    split at hq
    ·rename_i k hk
     obtain ⟨hd,h2⟩:=bif_some hq
     cases h2
     simp only [Bool.and_eq_true,decide_eq_true_eq,List.all_eq_true] at hd
     obtain ⟨⟨⟨⟨hac,hln⟩,hn1⟩,hno⟩,hlen⟩:=hd
     have hp:=ev_rep h.tm ad
     rw [hr] at hp
     have hvx:=ev_rep h.tm x
     rw [hx] at hvx
     obtain ⟨vs,hval,hvl,hrep⟩:=hvx
     obtain ⟨_,i,hi,hsz⟩:=hT _ _ _ hvar
     obtain ⟨hrn,hcl⟩:=h.mem r k hk
     have hst:(storeCells (at_ β r d) vs 0).run P w=.ok () (w.setCells (β r).1 ((β r).2+d) vs):=by
      have:=run_storeCells_cells (P:=P) (β r).1 ((β r).2+d) vs 0 w
       (fun j hj=>by
        obtain ⟨y,hy⟩:∃ y,k[d+j]?=some y:=⟨k[d+j]'(by omega),List.getElem?_eq_getElem _⟩
        obtain ⟨v,hv1,_⟩:=hcl (d+j) y hy
        rw [at_,← Nat.add_assoc] at hv1
        rw [Nat.add_zero,hv1]; rfl)
       (fun j hj=>by
        have:=h.frz r k hk (.inl hno) (d+j) (by omega)
        rw [at_,← Nat.add_assoc] at this
        rw [Nat.add_zero]
        exact this)
       (fun v hv=>by
        obtain ⟨j,hj⟩:=List.getElem?_of_mem hv
        have hjl:=(List.getElem?_eq_some_iff.1 hj).1
        obtain ⟨y,hy⟩:∃ y,l[j]?=some y:=⟨l[j]'(by omega),List.getElem?_eq_getElem _⟩
        exact isAc_rep (hac y (List.mem_of_getElem? hy)) (hrep j y v hy hj))
      rw [Nat.add_zero] at this
      exact this
     have hrun:(execOp a.eval o).run P w=.ok .skip (w.setCells (β r).1 ((β r).2+d) vs):=by
      have hvn:vs.length=n:=by omega
      simp only [execOp,ho,hp.1,hval,Instr.storeAt,Instr.sureAddr,Sem.run_bind,Sem.run_pure,Result.andThen,storeVar,run_size hi,hsz,Value.cells]
      simp [hst,hvn]
     unfold Oper.wp
     rw [hrun]
     exact hn _ _ ⟨β,Agree.refl _ _,trivial,h.forget hk hno⟩
    ·cases hq
   ·cases hq
  ·cases hq
def tabZ (xs:List (Nat × X)):Tab:={ tabX true pointPrims xs with lext:=Lx.or (lForget (tabOf true pointPrims).var) (Lx.or (lCalls xs) (lBld bldT)) }
theorem tabZ_ok {xs:List (Nat × X)} (hx:∀ f g,(f,g) ∈ xs→XOk Try.prog f g):(tabZ xs).Ok Try.prog :=
 let h:=tabX_ok (asElem:=true) pointPrims_ok hx
 {
  mixed:=h.mixed,arr:=h.arr,fld:=h.fld,var:=h.var,zero:=h.zero,bld:=h.bld,slc:=h.slc,mks:=h.mks,kind:=h.kind,elem:=h.elem,prim:=h.prim,qext:=h.qext
  lext:=LextOk.or (lForget_ok h.var) (LextOk.or (lCalls_ok hx) (lBld_ok bldT_ok)) }
end P224
/- What a slice of bytes can be: a point or not, in plain words. -/
namespace P224
open Go Go.RowKit Go.Proofs
set_option maxRecDepth 100000
set_option linter.unusedVariables false
def vsF (k:Nat):List Wd:=(List.range 28).map fun i=>.v (k+i)
theorem vals_vsF {s:Nums} {g:Nat→Nat} {k:Nat} (h:∀ i,i<28→s (k+i)=g (k+i)):(vsF k).map (Wd.val s)=rowF fun i=>g (k+i):=by
 rw [vsF,List.map_map,rowF]
 exact List.map_congr_left fun i hi=>h i (List.mem_range.1 hi)
theorem isPt_other {l:List Nat} (h1:l.length≠1) (h2:l.length≠57):isPt l=0:=by
 unfold isPt
 rw [if_neg (fun e=>h1 (by rw [e]; rfl)),if_neg (fun e=>h2 e.1)]
theorem isPt_one (z:Nat):isPt [z]=if z=0 then 1 else 0:=by
 unfold isPt
 by_cases h:z=0
 ·subst h; rw [if_pos rfl,if_pos rfl]
 ·rw [if_neg (fun e=>h (by injection e)),if_neg (fun e=>by simp at e),if_neg h]
theorem isPt_first {z:Nat} {l:List Nat} (h:z≠4) (hl:l.length=56):isPt (z :: l)=0:=by
 unfold isPt
 rw [if_neg (fun e=>by injection e with _ e; rw [e] at hl; cases hl),if_neg (fun e=>h (by have:=e.2.1; simpa using this))]
theorem isPt_four {l:List Nat} (hl:l.length=56):isPt (4 :: l)=if ofBytes (l.take 28)<pq∧ofBytes (l.drop 28)<pq then onN (ofBytes (l.take 28)) (ofBytes (l.drop 28)) else 0:=by
 unfold isPt
 have e1:(4 :: l).drop 1=l:=rfl
 have e2:(4 :: l).drop 29=l.drop 28:=rfl
 rw [if_neg (fun e=>by injection e with e _; cases e),e1,e2]
 by_cases h:ofBytes (l.take 28)<pq∧ofBytes (l.drop 28)<pq
 ·rw [if_pos h,if_pos ⟨by rw [List.length_cons,hl],rfl,h⟩]
 ·rw [if_neg h,if_neg (fun e=>h e.2.2)]
theorem isPt_le (l:List Nat):isPt l≤1:=by
 unfold isPt
 split
 ·decide
 ·split
  ·exact onN_le _ _
  ·decide
inductive Kinds (w:World) (b o n f:Nat):Prop where
 | other (h1:n≠1) (h2:n≠57) (hf:f=0)
 | one (z:Nat) (hn:n=1) (hc:w.cell? ⟨b,o,none⟩=some (.int .u8 (z:Int))) (hz:z<256) (hf:f=if z=0 then 1 else 0)
 | first (g:Nat→Nat) (hn:n=57) (hc:∀ k,k<57→w.cell? ⟨b,o+k,none⟩=some (.int .u8 (g k:Int))∧g k<256) (h4:g 0≠4) (hf:f=0)
 | big (g:Nat→Nat) (hn:n=57) (h4:w.cell? ⟨b,o,none⟩=some (.int .u8 4)) (hc:∀ k,k<56→w.cell? ⟨b,o+1+k,none⟩=some (.int .u8 (g k:Int))∧g k<256)
  (hb:¬ (ofBytes (rowF fun i=>g (0+i))<pq∧ofBytes (rowF fun i=>g (28+i))<pq)) (hf:f=0)
 | pair (x y:Nat) (hn:n=57) (hp:PtBytes w b o x y) (hx:x<pq) (hy:y<pq) (hf:f=onN x y)
theorem rowF_by8 {L:List Nat} (h:L.length=28) (hL:∀ x ∈ L,x<256):(List.range 28).map (fun k=>by8 (27 - k) (ofBytes L))=L:=by
 apply List.ext_getElem?
 intro k
 rw [List.getElem?_map]
 by_cases hk:k<28
 ·have e:=ofBytes_by8 L k hL (by omega)
  rw [h,show 28 - 1 - k=27 - k by omega] at e
  rw [List.getElem?_range hk,Option.map_some,e,List.getD_eq_getElem?_getD]
  obtain ⟨z,hz⟩:∃ z,L[k]?=some z:=⟨L[k]'(by omega),List.getElem?_eq_getElem _⟩
  rw [hz]; rfl
 ·rw [List.getElem?_eq_none (by simp; omega),List.getElem?_eq_none (by omega)]; rfl
theorem Flag.kinds {w:World} {b o n f:Nat} (h:Flag w (b,o) n f):Kinds w b o n f:=by
 obtain ⟨l,hl,hlt,hc,rfl⟩:=h
 by_cases h1:n=1
 ·match l,hl with
  | [z],_=>exact .one z h1 (hc 0 z rfl) (hlt z (by simp)) (isPt_one z)
  | [],hl=>rw [h1] at hl; cases hl
  | _ :: _ :: _,hl=>rw [h1] at hl; simp at hl
 by_cases h57:n=57
 ·match l,hl,hlt,hc with
  | [],hl,_,_=>rw [h57] at hl; cases hl
  | z :: l,hl,hlt,hc =>
  have hl56:l.length=56:=by rw [h57] at hl; simpa using hl
  by_cases hz:z=4
  ·subst hz
   rw [isPt_four hl56]
   have t1:(l.take 28).length=28:=by rw [List.length_take]; omega
   have t2:(l.drop 28).length=28:=by rw [List.length_drop]; omega
   have g1:∀ x ∈ l.take 28,x<256:=fun x hx=>hlt x (List.mem_cons_of_mem _ (List.mem_of_mem_take hx))
   have g2:∀ x ∈ l.drop 28,x<256:=fun x hx=>hlt x (List.mem_cons_of_mem _ (List.mem_of_mem_drop hx))
   by_cases hb:ofBytes (l.take 28)<pq∧ofBytes (l.drop 28)<pq
   ·rw [if_pos hb]
    refine .pair _ _ h57 (fun k z hz=>hc k z ?_) hb.1 hb.2 rfl
    rw [pvals,rowF_by8 t1 g1,rowF_by8 t2 g2,List.take_append_drop] at hz
    exact hz
   ·rw [if_neg hb]
    have e1:rowF (fun i=>l.getD (0+i) 0)=l.take 28:=by
     rw [← rowF_of t1]
     refine rowF_congr fun k hk=>?_
     rw [List.getD_eq_getElem?_getD,List.getD_eq_getElem?_getD,List.getElem?_take_of_lt hk,Nat.zero_add]
    have e2:rowF (fun i=>l.getD (28+i) 0)=l.drop 28:=by
     rw [← rowF_of t2]
     refine rowF_congr fun k hk=>?_
     rw [List.getD_eq_getElem?_getD,List.getD_eq_getElem?_getD,List.getElem?_drop]
    refine .big (fun k=>l.getD k 0) h57 (hc 0 4 rfl) (fun k hk=>?_) (by rw [e1,e2]; exact hb) rfl
    obtain ⟨u,hu⟩:∃ u,l[k]?=some u:=⟨l[k]'(by omega),List.getElem?_eq_getElem _⟩
    have e:l.getD k 0=u:=by rw [List.getD_eq_getElem?_getD,hu]; rfl
    rw [e,show o+1+k=o+(k+1) by omega]
    exact ⟨hc (k+1) u hu,hlt u (List.mem_cons_of_mem _ (List.mem_of_getElem? hu))⟩
  ·rw [isPt_first hz hl56]
   refine .first (fun k=>(z :: l).getD k 0) h57 (fun k hk=>?_) (by simpa using hz) rfl
   obtain ⟨u,hu⟩:∃ u,(z :: l)[k]?=some u:=⟨(z :: l)[k]'(by rw [List.length_cons]; omega),List.getElem?_eq_getElem _⟩
   have e:(z :: l).getD k 0=u:=by rw [List.getD_eq_getElem?_getD,hu]; rfl
   rw [e]
   exact ⟨hc k u hu,hlt u (List.mem_of_getElem? hu)⟩
 ·rw [isPt_other (by omega) (by omega)]
  exact .other h1 h57 rfl
end P224
/- The reference's Read of whatever bytes: a call that tells whether they are a point. -/
namespace P224
open Go Go.RowKit Go.Proofs
set_option maxRecDepth 100000
set_option linter.unusedVariables false
def noPt:List AV:=[.agg [.lit (.bool false),.lit (.slice none 0 0),.lit (.slice none 0 0)],.one (.lit (.bool false))]
def fix28a:Fix:=fixD 67 2 [] [] [(3,false),(4,true)]
def br28a:BriefR:=⟨.ret,5,[.fne (.v 0) (.c 57),.feq (.v 0) (.c 1)],[],noPt,[]⟩
theorem run28a:briefR (tabX true [] xq2) Try.f28 [] (runF (tabX true [] xq2) fix28a 3000 Try.f28 (startSt [curveAV 0,.one (.sy 1 0)] [(0,foldCells)] 3 2))=some br28a:=by kernel_rfl
def fix28b:Fix:=fixD 67 2 [] [] [(1,false)]
def br28b:BriefR:=⟨.ret,2,[.feq (.v 0) (.c 0)],[],noPt,[]⟩
theorem run28b:briefR (tabX true [] xq2) Try.f28 [] (runF (tabX true [] xq2) fix28b 3000 Try.f28 (startSt [curveAV 0,.one (.sl 1 0 1)] [(0,foldCells),(1,[.num .u8 0])] 1 2))=some br28b:=by kernel_rfl
def fix28c:Fix:=fixD 67 2 [] [] []
def br28c:BriefR:=⟨.ret,0,[],[],[.agg [.lit (.bool true),.lit (.slice none 0 0),.lit (.slice none 0 0)],.one (.lit (.bool true))],[]⟩
theorem run28c:briefR (tabX true [] xq2) Try.f28 [] (runF (tabX true [] xq2) fix28c 3000 Try.f28 (startSt [curveAV 0,.one (.sl 1 0 1)] [(0,foldCells),(1,[.lit (.int .u8 0)])] 0 2))=some br28c:=by kernel_rfl
def fix28d:Fix:=fixD 67 2 [] [] [(57,true)]
def br28d:BriefR:=⟨.ret,58,[.fne (.v 0) (.c 4)],[],noPt,[]⟩
theorem run28d:briefR (tabX true [] xq2) Try.f28 [] (runF (tabX true [] xq2) fix28d 3000 Try.f28 (startSt [curveAV 0,.one (.sl 1 0 57)] [(0,foldCells),(1,numsFrom .u8 0 57)] 57 2))=some br28d:=by kernel_rfl
def st28n:St:=startSt [curveAV 0,.one (.sl 1 0 57)] [(0,foldCells),(1,.lit (.int .u8 4) :: numsFrom .u8 0 56)] 56 2
def bigPt:List AV:=[.agg [.lit (.bool false),.slc 4 0 7 7,.slc 5 0 7 7],.one (.lit (.bool false))]
def fix28x:Fix:=fixD 67 2 [] [] [(58,false)]
def br28x:BriefR:=⟨.ret,59,[.op 4 [.v 56,.c pq],.op 2 (vsF 28),.op 2 (vsF 0)],[],bigPt,[]⟩
theorem run28x:briefR (tabX true [] xq2) Try.f28 [] (runF (tabX true [] xq2) fix28x 3000 Try.f28 st28n)=some br28x:=by kernel_rfl
def fix28y:Fix:=fixD 67 2 [] [] [(58,true),(59,false)]
def br28y:BriefR:=⟨.ret,60,[.op 4 [.v 57,.c pq],.op 4 [.v 56,.c pq],.op 2 (vsF 28),.op 2 (vsF 0)],[],bigPt,[]⟩
theorem run28y:briefR (tabX true [] xq2) Try.f28 [] (runF (tabX true [] xq2) fix28y 3000 Try.f28 st28n)=some br28y:=by kernel_rfl
end P224
/- The reference's Read of whatever bytes: the contract. -/
namespace P224
open Go Go.RowKit Go.Proofs
set_option maxRecDepth 100000
set_option linter.unusedVariables false
theorem tup2_bool {s:Nums} {β:Places} {n:Nat} {a b c:A0} {bb:Bool} {v:Value} (hd:(definite a && definite b && definite c)=true) (h:(resAV [.agg [a,b,c],.one (.lit (.bool bb))]).rep s β n v) :
  ∃ x y z,v=.tuple #[.agg #[x,y,z],.bool bb]∧x.oneCell'=true∧y.oneCell'=true∧z.oneCell'=true:=by
 simp only [Bool.and_eq_true] at hd
 obtain ⟨vs,rfl,hl⟩:=h
 match vs,hl with
 | [u,b],⟨hu,hb,_⟩ =>
  have hb':b=.bool bb:=hb
  obtain ⟨us,rfl,hul,huc⟩:=hu
  match us,hul,huc with
  | [x,y,z],_,huc =>
   have k0:=rep_conc hd.1.1 (huc 0 _ x rfl rfl)
   have k1:=rep_conc hd.1.2 (huc 1 _ y rfl rfl)
   have k2:=rep_conc hd.2 (huc 2 _ z rfl rfl)
   exact ⟨x,y,z,by rw [hb'],by rw [k0]; exact oneCell_conc hd.1.1,by rw [k1]; exact oneCell_conc hd.1.2,by rw [k2]; exact oneCell_conc hd.2⟩
theorem dec1 {i j:Nat} {b c:Bool} (h:findT i [(j,c)]=some b):i=j∧b=c:=by
 have:=findT_mem h
 simp only [List.mem_cons,List.not_mem_nil,or_false,Prod.mk.injEq] at this
 exact this
theorem dec2 {i j k:Nat} {b c d:Bool} (h:findT i [(j,c),(k,d)]=some b):(i=j∧b=c)∨(i=k∧b=d):=by
 have:=findT_mem h
 simp only [List.mem_cons,List.not_mem_nil,or_false,Prod.mk.injEq] at this
 exact this
def Told (w:World) (f:Nat) (v:Value) (w':World):Prop:=∃ x y z,v=.tuple #[.agg #[x,y,z],.bool (f == 1)]∧(x.oneCell'=true∧y.oneCell'=true∧z.oneCell'=true)∧Below w.heap.size w w'
theorem meets28g (w:World) (bf of b o n f:Nat) (v:Value) (hfo:FoldsAt w bf of) (hb:b<w.heap.size) (hn63:n<2 ^ 63)
  (hv:(∃ c,v=.slice (some ⟨b,o,none⟩) n c∧n≤c)∨(n=0∧v=.slice none 0 0)) (hf:Flag w (b,o) n f) :
  Meets Try.prog 28 #[curveV bf of,v] w (Told w f):=by
 let β:Places:=fun r=>if r=0 then (bf,of) else (b,o)
 have hold:∀ r,r<2→(β r).1<w.heap.size:=fun r _=>by
  show (if r=0 then (bf,of) else (b,o)).1<_
  split
  ·exact hfo.lt
  ·exact hb
 have hsl:n≠0→∃ c,v=.slice (some ⟨b,o,none⟩) n c∧n≤c:=fun h0=>by
  rcases hv with hv | ⟨h,_⟩
  ·exact hv
  ·exact absurd h h0
 rcases hf.kinds with ⟨h1,h2,hfl⟩|⟨z,hn,hc,hz,hfl⟩|⟨g,hn,hc,h4,hfl⟩|⟨g,hn,h4,hc,hbg,hfl⟩|⟨x,y,hn,hp,hx,hy,hfl⟩
 ·refine meets_of_calls Try.func28 (by kernel_rfl) (by kernel_rfl) ?_
  obtain ⟨u,d,hv0,hcap,hnil⟩:∃ u d:Nat,v=(if d=1 then .slice none 0 0 else .slice (some ⟨b,o,none⟩) n u)∧n≤u∧(d=1→n=0):=by
   rcases hv with ⟨c,hv,hc⟩|⟨h0,hv⟩
   ·exact ⟨c,0,hv,hc,fun e=>by cases e⟩
   ·exact ⟨n,1,hv,Nat.le_refl _,fun _=>h0⟩
  refine calls_briefR (F:=fix28a) (tabX_ok noPrims_ok xq2_ok) run28a Try.func28 Try.ntmps28 rfl (by decide +kernel) (by decide +kernel) (by decide +kernel) (show 2≤67 by decide) (show 2<4095 by decide) (fun i=>if i=0 then n else if i=1 then u else d) β
   (vals:=[curveV bf of,v]) (fun s hs=>⟨curve_rep rfl (show 0<2 by decide),⟨?_,show 1<2 by decide,by rw [hs 0 (by decide)]; exact hn63,by rw [hs 0 (by decide),hs 1 (by decide)]; exact hcap,by rw [hs 0 (by decide),hs 2 (by decide)]; exact hnil⟩,trivial⟩)
   (fun s hs=>⟨show 0<2 by decide,fold_row rfl hfo,trivial⟩) (fun r l hl hr=>by cases hr) hold (fun r q _ _ h=>by cases h) ?_ ?_
  ·rw [syV,hs 0 (by decide),hs 1 (by decide),hs 2 (by decide),hv0]; rfl
  ·intro s hs hH i bb hb
   have e0:s 0=n:=hs 0 (by decide)
   have e2:s 3=if s 0=1 then 1 else 0:=hH.2.1
   have e3:s 4=if s 0=57 then 0 else 1:=hH.1
   rw [e0,if_neg h1] at e2
   rw [e0,if_neg h2] at e3
   rcases dec2 hb with ⟨rfl,rfl⟩|⟨rfl,rfl⟩ <;> assumption
  ·intro s hs hH st' β' a' w' v' hv' hm hag hr hbe
   obtain ⟨x1,x2,x3,rfl,o1,o2,o3⟩:=tup2_bool rfl hv'
   exact ⟨_,rfl,x1,x2,x3,by rw [hfl]; rfl,⟨o1,o2,o3⟩,hbe⟩
 ·refine meets_of_calls Try.func28 (by kernel_rfl) (by kernel_rfl) ?_
  subst hn
  obtain ⟨c,rfl,hcap⟩:=hsl (by decide)
  by_cases h0:z=0
  ·subst h0
   refine calls_briefR (F:=fix28c) (tabX_ok noPrims_ok xq2_ok) run28c Try.func28 Try.ntmps28 rfl (by decide +kernel) (by decide +kernel) (by decide +kernel) (show 2≤67 by decide) (show 2<4095 by decide) (fun _=>0) β
    (vals:=[curveV bf of,_]) (fun s hs=>⟨curve_rep rfl (show 0<2 by decide),⟨c,hcap,rfl,show 1<2 by decide⟩,trivial⟩)
    (fun s hs=>⟨show 0<2 by decide,fold_row rfl hfo,show 1<2 by decide,⟨⟨_,hc,rfl⟩,trivial⟩,trivial⟩) (fun r l hl hr=>by cases hr) hold (fun r q _ _ h=>by cases h) (fun s hs hH i bb hb=>by cases hb) ?_
   intro s hs hH st' β' a' w' v' hv' hm hag hr hbe
   obtain ⟨x1,x2,x3,rfl,o1,o2,o3⟩:=tup2_bool rfl hv'
   exact ⟨_,rfl,x1,x2,x3,by rw [hfl]; rfl,⟨o1,o2,o3⟩,hbe⟩
  ·refine calls_briefR (F:=fix28b) (tabX_ok noPrims_ok xq2_ok) run28b Try.func28 Try.ntmps28 rfl (by decide +kernel) (by decide +kernel) (by decide +kernel) (show 2≤67 by decide) (show 2<4095 by decide) (fun _=>z) β
    (vals:=[curveV bf of,_]) (fun s hs=>⟨curve_rep rfl (show 0<2 by decide),⟨c,hcap,rfl,show 1<2 by decide⟩,trivial⟩)
    (fun s hs=>⟨show 0<2 by decide,fold_row rfl hfo,show 1<2 by decide,⟨⟨_,hc,by rw [hs 0 (by decide)],by rw [hs 0 (by decide)]; exact hz⟩,trivial⟩,trivial⟩) (fun r l hl hr=>by cases hr) hold (fun r q _ _ h=>by cases h) ?_ ?_
   ·intro s hs hH i bb hb
    have e0:s 0=z:=hs 0 (by decide)
    have e1:s 1=if s 0=0 then 1 else 0:=hH.1
    rw [e0,if_neg h0] at e1
    obtain ⟨rfl,rfl⟩:=dec1 hb
    exact e1
   ·intro s hs hH st' β' a' w' v' hv' hm hag hr hbe
    obtain ⟨x1,x2,x3,rfl,o1,o2,o3⟩:=tup2_bool rfl hv'
    exact ⟨_,rfl,x1,x2,x3,by rw [hfl,if_neg h0]; rfl,⟨o1,o2,o3⟩,hbe⟩
 ·refine meets_of_calls Try.func28 (by kernel_rfl) (by kernel_rfl) ?_
  subst hn
  obtain ⟨c,rfl,hcap⟩:=hsl (by decide)
  refine calls_briefR (F:=fix28d) (tabX_ok noPrims_ok xq2_ok) run28d Try.func28 Try.ntmps28 rfl (by decide +kernel) (by decide +kernel) (by decide +kernel) (show 2≤67 by decide) (show 2<4095 by decide) g β
   (vals:=[curveV bf of,_]) (fun s hs=>⟨curve_rep rfl (show 0<2 by decide),⟨c,hcap,rfl,show 1<2 by decide⟩,trivial⟩)
   (fun s hs=>⟨show 0<2 by decide,fold_row rfl hfo,show 1<2 by decide,row_nums 57 0 0 fun k hk=>by
    obtain ⟨e1,e2⟩:=hc k hk
    rw [Nat.zero_add,hs _ hk]
    exact ⟨e1,e2⟩,trivial⟩) (fun r l hl hr=>by cases hr) hold (fun r q _ _ h=>by cases h) ?_ ?_
  ·intro s hs hH i bb hb
   have e0:s 0=g 0:=hs 0 (by decide)
   have e1:s 57=if s 0=4 then 0 else 1:=hH.1
   rw [e0,if_neg h4] at e1
   obtain ⟨rfl,rfl⟩:=dec1 hb
   exact e1
  ·intro s hs hH st' β' a' w' v' hv' hm hag hr hbe
   obtain ⟨x1,x2,x3,rfl,o1,o2,o3⟩:=tup2_bool rfl hv'
   exact ⟨_,rfl,x1,x2,x3,by rw [hfl]; rfl,⟨o1,o2,o3⟩,hbe⟩
 ·refine meets_of_calls Try.func28 (by kernel_rfl) (by kernel_rfl) ?_
  subst hn
  obtain ⟨c,rfl,hcap⟩:=hsl (by decide)
  have hrow:∀ s:Nums,(∀ i,i<56→s i=g i)→MemOk s β 2 w [(0,foldCells),(1,.lit (.int .u8 4) :: numsFrom .u8 0 56)]:=fun s hs =>
   ⟨show 0<2 by decide,fold_row rfl hfo,show 1<2 by decide,⟨⟨_,h4,rfl⟩,row_nums 56 0 1 fun k hk=>by
    obtain ⟨e1,e2⟩:=hc k hk
    rw [Nat.zero_add,hs _ hk]
    refine ⟨?_,e2⟩
    rw [at_,show (β 1).2+(1+k)=o+1+k from by show o+(1+k)=_; omega]
    exact e1⟩,trivial⟩
  by_cases hx:ofBytes (rowF fun i=>g (0+i))<pq
  ·have hy:¬ ofBytes (rowF fun i=>g (28+i))<pq:=fun hy=>hbg ⟨hx,hy⟩
   refine calls_briefR (F:=fix28y) (tabX_ok noPrims_ok xq2_ok) run28y Try.func28 Try.ntmps28 rfl (by decide +kernel) (by decide +kernel) (by decide +kernel) (show 2≤67 by decide) (show 2<4095 by decide) g β
    (vals:=[curveV bf of,_]) (fun s hs=>⟨curve_rep rfl (show 0<2 by decide),⟨c,hcap,rfl,show 1<2 by decide⟩,trivial⟩) (fun s hs=>hrow s hs) (fun r l hl hr=>by cases hr) hold (fun r q _ _ h=>by cases h) ?_ ?_
   ·intro s hs hH i bb hb
    have e59:s 59=if s 57<pq then 1 else 0:=hH.1
    have e58:s 58=if s 56<pq then 1 else 0:=hH.2.1
    have e57:s 57=ofBytes ((vsF 28).map (Wd.val s)):=hH.2.2.1
    have e56:s 56=ofBytes ((vsF 0).map (Wd.val s)):=hH.2.2.2.1
    rw [vals_vsF (g:=g) fun i hi=>hs _ (by omega)] at e57 e56
    rw [e56,if_pos hx] at e58
    rw [e57,if_neg hy] at e59
    rcases dec2 hb with ⟨rfl,rfl⟩|⟨rfl,rfl⟩ <;> assumption
   ·intro s hs hH st' β' a' w' v' hv' hm hag hr hbe
    obtain ⟨x1,x2,x3,rfl,o1,o2,o3⟩:=tup2_bool rfl hv'
    exact ⟨_,rfl,x1,x2,x3,by rw [hfl]; rfl,⟨o1,o2,o3⟩,hbe⟩
  ·refine calls_briefR (F:=fix28x) (tabX_ok noPrims_ok xq2_ok) run28x Try.func28 Try.ntmps28 rfl (by decide +kernel) (by decide +kernel) (by decide +kernel) (show 2≤67 by decide) (show 2<4095 by decide) g β
    (vals:=[curveV bf of,_]) (fun s hs=>⟨curve_rep rfl (show 0<2 by decide),⟨c,hcap,rfl,show 1<2 by decide⟩,trivial⟩) (fun s hs=>hrow s hs) (fun r l hl hr=>by cases hr) hold (fun r q _ _ h=>by cases h) ?_ ?_
   ·intro s hs hH i bb hb
    have e58:s 58=if s 56<pq then 1 else 0:=hH.1
    have e56:s 56=ofBytes ((vsF 0).map (Wd.val s)):=hH.2.2.1
    rw [vals_vsF (g:=g) fun i hi=>hs _ (by omega)] at e56
    rw [e56,if_neg hx] at e58
    obtain ⟨rfl,rfl⟩:=dec1 hb
    exact e58
   ·intro s hs hH st' β' a' w' v' hv' hm hag hr hbe
    obtain ⟨x1,x2,x3,rfl,o1,o2,o3⟩:=tup2_bool rfl hv'
    exact ⟨_,rfl,x1,x2,x3,by rw [hfl]; rfl,⟨o1,o2,o3⟩,hbe⟩
 ·subst hn
  obtain ⟨c,rfl,hcap⟩:=hsl (by decide)
  have hme:=meets28 w bf of b o c x y hcap hfo hp hx hy
  intro o' a' next Q hn
  refine hme o' a' next Q fun v' w' ⟨bx,b2,hels,hv'⟩=>hn _ _ ?_
  exact ⟨_,_,_,by rw [hv',hfl],⟨rfl,rfl,rfl⟩,hels.2.2.2.2.2.2.2.2.2⟩
end P224
/- The reference's Read of whatever bytes, as a call that the executor knows; the laws' table. -/
namespace P224
open Go Go.RowKit Go.Proofs
set_option maxRecDepth 100000
set_option linter.unusedVariables false
def x28g:X:=fun F st args=>match args with
 | [cv,.one (.sy r i)]=>match isCurve st cv,F.np r with
  | some _,some (i',j)=>bif i' == i && st.out.isEmpty then some (.tup [.agg [.ac,.ac,.ac],.one (.bl j)],st) else none
  | _,_=>none
 | _=>none
theorem Flag.below {w0 w:World} {p:Nat × Nat} {n f:Nat} (h:Flag w0 p n f) (hb:Below w0.heap.size w0 w) (hp:p.1<w0.heap.size):Flag w p n f:=by
 obtain ⟨l,h1,h2,h3,h4⟩:=h
 refine ⟨l,h1,h2,fun k z hz=>?_,h4⟩
 rw [hb.cell (p:=⟨p.1,p.2+k,none⟩) hp]
 exact h3 k z hz
theorem Flag.le {w:World} {p:Nat × Nat} {n f:Nat} (h:Flag w p n f):f≤1:=by
 obtain ⟨l,_,_,_,rfl⟩:=h
 exact isPt_le l
theorem x28g_ok:XOk Try.prog 28 x28g:=by
 refine ⟨fun {F st st' args av} h=>?_,fun {s β F w0 st st' a w args vs av} hr h hargs hH=>?_⟩
 ·unfold x28g at h
  split at h
  ·split at h
   ·obtain ⟨_,h⟩:=bif_some h
    cases h; exact .refl _
   ·cases h
  ·cases h
 ·unfold x28g at h
  split at h
  ·rename_i cv r i
   split at h
   ·rename_i q i' j hcv hnp
    obtain ⟨hd,h⟩:=bif_some h
    cases h
    rw [Bool.and_eq_true] at hd
    have hi:=beq_iff_eq.1 hd.1
    subst hi
    have hout:st.out=[]:=List.isEmpty_iff.1 hd.2
    obtain ⟨hrn,hfl⟩:=hr.np r i' j hnp
    have hbe:=hr.below
    rw [hout] at hbe
    have hlt:=hr.old r hrn
    have hfl':=hfl.below hbe hlt
    obtain ⟨u0,u,rfl,hu0,hu⟩:=avs2 hargs
    obtain ⟨rf,of⟩:=q
    obtain ⟨c0,c1,c2⟩:=isCurve_rep hr hcv hu0
    obtain ⟨hv0,_,hs63,hcap,hnil⟩:=hu
    have hv:(∃ c,u=.slice (some ⟨(β r).1,(β r).2,none⟩) (s i') c∧s i'≤c)∨(s i'=0∧u=.slice none 0 0):=by
     rw [syV] at hv0
     split at hv0
     ·rename_i h1; exact .inr ⟨hnil h1,hv0⟩
     ·exact .inl ⟨_,hv0,hcap⟩
    have hsz:=hr.size_le
    have hme:=meets28g w (β rf).1 ((β rf).2+of) (β r).1 (β r).2 (s i') (s j) u c1 (Nat.lt_of_lt_of_le hlt hsz) hs63 hv hfl'
    ·intro o' a' next Q hn
     rw [c0]
     refine hme o' a' next Q fun v' w' ⟨x1,x2,x3,hv',⟨o1,o2,o3⟩,hb'⟩=>hn _ _ ?_
     refine ⟨β,Agree.refl _ _,⟨[_,_],hv',⟨[x1,x2,x3],rfl,rfl,fun k a x ha hx=>?_⟩,⟨rfl,hfl.le⟩,trivial⟩,hr.kept hb'⟩
     match k,ha,hx with
     | 0,ha,hx=>cases ha; cases hx; exact o1
     | 1,ha,hx=>cases ha; cases hx; exact o2
     | 2,ha,hx=>cases ha; cases hx; exact o3
     | k+3,ha,hx=>cases ha
   ·cases h
  ·cases h
end P224
/- A slice of bytes that came in, as the executor is told of it. -/
namespace P224
open Go Go.RowKit Go.Proofs
set_option maxRecDepth 100000
set_option linter.unusedVariables false
structure Sl (w:World) (v:Value) (b o n u d f:Nat):Prop where
 eq:v=if d=1 then .slice none 0 0 else .slice (some ⟨b,o,none⟩) n u
 le:n≤u
 nil:d=1→n=0
 lt:b<w.heap.size
 n63:n<2 ^ 63
 flag:Flag w (b,o) n f
theorem Sl.rep {w:World} {v:Value} {b o n u d f:Nat} (h:Sl w v b o n u d f) {s:Nums} {β:Places} {nr r i:Nat} (hβ:β r=(b,o)) (hr:r<nr) (h0:s i=n) (h1:s (i+1)=u) (h2:s (i+2)=d):(A0.sy r i).rep s β nr v:=by
 refine ⟨?_,hr,by rw [h0]; exact h.n63,by rw [h0,h1]; exact h.le,by rw [h0,h2]; exact h.nil⟩
 rw [syV,h0,h1,h2,h.eq,at_,hβ]
 rfl
theorem Sl.np {w:World} {v:Value} {b o n u d f:Nat} (h:Sl w v b o n u d f) {s:Nums} {β:Places} {r i j:Nat} (hβ:β r=(b,o)) (h0:s i=n) (h1:s j=f):Flag w (β r) (s i) (s j):=by
 rw [hβ,h0,h1]
 exact h.flag
inductive PtOf (w:World) (v:Value):Prop where
 | far (b o c:Nat) (hv:v=.slice (some ⟨b,o,none⟩) 1 c) (hc:1≤c) (hp:w.cell? ⟨b,o,none⟩=some (.int .u8 0))
 | on (b o c x y:Nat) (hv:v=.slice (some ⟨b,o,none⟩) 57 c) (hc:57≤c) (hp:PtBytes w b o x y) (hx:x<pq) (hy:y<pq) (hon:onN x y=1)
theorem Sl.point {w:World} {v:Value} {b o n u d:Nat} (h:Sl w v b o n u d 1):PtOf w v:=by
 have hd:n≠0→v=.slice (some ⟨b,o,none⟩) n u:=fun hn=>by rw [h.eq,if_neg fun e=>hn (h.nil e)]
 rcases h.flag.kinds with ⟨h1,h2,hfl⟩|⟨z,hn,hc,hz,hfl⟩|⟨g,hn,hc,h4,hfl⟩|⟨g,hn,h4,hc,hbg,hfl⟩|⟨x,y,hn,hp,hx,hy,hfl⟩
 ·cases hfl
 ·by_cases h0:z=0
  ·subst h0
   subst hn
   exact .far b o u (hd (by decide)) h.le hc
  ·rw [if_neg h0] at hfl; cases hfl
 ·cases hfl
 ·cases hfl
 ·subst hn
  exact .on b o u x y (hd (by decide)) h.le hp hx hy hfl.symm
def fixN (nt n:Nat) (d:List (Nat × Bool)) (np:List (Nat × (Nat × Nat))):Fix:={ nt:=nt,nold:=n,wr:=fun _=>false,sep:=fun _ _=>false,dec:=fun i=>findT i d,np:=fun r=>findT r np }
abbrev Law (f:Nat) (w:World) (vs:List Value):Prop:=Calls Try.prog f vs.toArray w fun e w'=>e=.returned (.bool true)∧Below w.heap.size w w'
end P224
