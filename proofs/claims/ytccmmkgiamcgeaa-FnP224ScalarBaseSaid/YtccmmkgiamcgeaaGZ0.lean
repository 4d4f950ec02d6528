/- More operations: a byte's bits. -/
import Derived.Test.YtccmmkgiamcgeaaGP1
import Derived.Test.YtccmmkgiamcgeaaGM1
set_option linter.all false
namespace P224
open Go Go.RowKit Go.Proofs
set_option maxRecDepth 100000
set_option linter.unusedVariables false
def qShr8:Qx:=fun F _ st op=>match op with
 | .binOp .shr t x y _=>match st.ev x,st.ev y with
  | .one a,.one (.lit (.int .i64 n))=>match a.word .u8 with
   | some p=>bif decide (0≤n) && decide (n≤7) then some (.one (.num .u8 st.nx),[.shr n.toNat p]) else none
   | _=>none
  | _,_=>none
 | _=>none
theorem shr8_run {P:Program} (t:TypeId) (x n:Nat) (hn:n≤7) (w:World):(binOp .shr t (.int .u8 (x:Int)) (.int .i64 (n:Int))).run P w=.ok (.int .u8 ((x / 2 ^ n:Nat):Int)) w:=by
 have h0:decide ((n:Int)<0)=false:=decide_eq_false (by omega)
 have h1:=litShift_run (P:=P) (op:=.shr) (k:=.u8) (k':=.i64) (a:=(x:Int)) (n:=(n:Int)) (v:=.int .u8 ((x:Int).fdiv (2 ^ (min n 8)))) (by
  unfold litShift
  rw [h0]
  rfl) t w
 rw [h1,Nat.min_eq_left (by omega)]
 congr 2
 rw [Int.fdiv_eq_ediv_of_nonneg _ (by exact Int.pow_nonneg (by decide)),Int.natCast_ediv]
 norm_cast
theorem qShr8_ok {P:Program}:QextOk P qShr8:=by
 intro s β F L st a o av l m hd h ht hH w0 hw0
 unfold qShr8 at h
 split at h
 ·rename_i t x y t' ho
  split at h
  ·rename_i p n hx hy
   split at h
   ·rename_i p' hp
    obtain ⟨hb,h⟩:=bif_some h
    cases h
    simp only [Bool.and_eq_true,decide_eq_true_eq] at hb
    have hrx:=ev_rep ht x
    rw [hx] at hrx
    have hry:=ev_rep ht y
    rw [hy] at hry
    have hv':a.eval y=.int .i64 n:=hry
    obtain ⟨hv,hlt⟩:=word_rep hp hrx
    have e:s st.nx=p'.val s / 2 ^ n.toNat:=hH.1
    have en:n=((n.toNat:Nat):Int):=by omega
    refine ⟨.int .u8 ((p'.val s / 2 ^ n.toNat:Nat):Int),⟨by rw [e],by rw [e]; exact Nat.lt_of_le_of_lt (Nat.div_le_self _ _) hlt⟩,fun w _=>?_⟩
    rw [en] at hv'
    simp only [execOp,ho,hv,hv',Sem.run_bind,guard_int,Result.andThen,shr8_run t _ n.toNat (by omega),Sem.run_pure]
   ·cases h
  ·cases h
 ·cases h
def tabM (xs:List (Nat × X)):Tab:={ tabX true [] xs with qext:=Qx.or qShr8 (tabX true [] xs).qext }
theorem tabM_ok {xs:List (Nat × X)} (hx:XsOk xs):(tabM xs).Ok Try.prog :=
 let h:=tabX_ok noPrims_ok hx
 {
  mixed:=h.mixed,arr:=h.arr,fld:=h.fld,var:=h.var,zero:=h.zero,bld:=h.bld,slc:=h.slc,mks:=h.mks,kind:=h.kind,elem:=h.elem,prim:=h.prim,lext:=h.lext
  qext:=QextOk.or qShr8_ok h.qext }
noncomputable def xb0:List (Nat × X):=with1 xq2 [] 2000 55 Try.f55
noncomputable def xb1:List (Nat × X):=with1 xb0 [] 2000 56 Try.f56
theorem xb1_ok:XsOk xb1:=with1_ok noPrims_ok (with1_ok noPrims_ok xq2_ok Try.func55 (by kernel_rfl)) Try.func56 (by kernel_rfl)
end P224
/- A loop by its rounds: what is known at its head, renumbered. -/
namespace P224
open Go Go.RowKit Go.Proofs
set_option maxRecDepth 100000
set_option linter.unusedVariables false
def A0.rn (ρ ν:Nat→Nat):A0→A0
 | .any=>.any
 | .lit v=>.lit v
 | .num k i=>.num k (ν i)
 | .bit k i=>.bit k (ν i)
 | .limb i k=>.limb (ν i) k
 | .ptr r o=>.ptr (ρ r) o
 | .slc r o n c=>.slc (ρ r) o n c
 | .l32 i k=>.l32 (ν i) k
 | .bl i=>.bl (ν i)
 | .dig i k=>.dig (ν i) k
 | .byt i k=>.byt (ν i) k
 | .sg i=>.sg (ν i)
 | .sl r o n=>.sl (ρ r) o n
 | .sv r o n i=>.sv (ρ r) o n (ν i)
 | .err=>.err
 | .sy r i=>.sy (ρ r) (ν i)
 | .ac=>.ac
def A0.bel (nr nx:Nat):A0→Bool
 | .num _ i | .bit _ i | .limb i _ | .l32 i _ | .bl i | .dig i _ | .byt i _ | .sg i=>decide (i<nx)
 | .ptr r _ | .slc r _ _ _ | .sl r _ _=>decide (r<nr)
 | .sv r _ _ i=>decide (r<nr) && decide (i<nx)
 | .sy _ _=>false
 | _=>true
def AV.rn (ρ ν:Nat→Nat):AV→AV
 | .one a=>.one (a.rn ρ ν)
 | .agg l=>.agg (l.map (A0.rn ρ ν))
 | x=>x
def AV.bel (nr nx:Nat):AV→Bool
 | .one a=>a.bel nr nx
 | .agg l=>l.all (A0.bel nr nx)
 | _=>false
theorem rn_id (x:A0):x.rn id id=x:=by cases x <;> rfl
theorem rn_idL (l:List A0):l.map (A0.rn id id)=l:=by
 induction l with
 | nil=>rfl
 | cons x l ih=>rw [List.map_cons,ih,rn_id]
theorem rn_idV (x:AV):x.rn id id=x:=by
 cases x with
 | one a=>show AV.one (a.rn id id)=_; rw [rn_id]
 | agg l=>show AV.agg (l.map (A0.rn id id))=_; rw [rn_idL]
 | two a b=>rfl
 | tup l=>rfl
section
variable {s s2:Nums} {β β2:Places} {n nr nx:Nat} {ρ ν:Nat→Nat}
theorem rn_rep (hs:∀ i,i<nx→s2 i=s (ν i)) (hβ:∀ r,r<nr→β2 r=β (ρ r)) {x:A0} (hb:x.bel nr nx=true) {v:Value} (h:(x.rn ρ ν).rep s β n v):x.rep s2 β2 nr v:=by
 have at_eq:∀ r o,r<nr→at_ β2 r o=at_ β (ρ r) o:=fun r o hr=>by rw [at_,at_,hβ r hr]
 cases x with
 | any=>trivial
 | lit u=>exact h
 | num k i=>have:=of_decide_eq_true hb; obtain ⟨h1,h2⟩:=h; exact ⟨by rw [hs i this]; exact h1,by rw [hs i this]; exact h2⟩
 | bit k i=>have:=of_decide_eq_true hb; obtain ⟨h1,h2⟩:=h; exact ⟨by rw [hs i this]; exact h1,by rw [hs i this]; exact h2⟩
 | limb i k=>have:=of_decide_eq_true hb; obtain ⟨h1,h2⟩:=h; exact ⟨by rw [hs i this]; exact h1,by rw [hs i this]; exact h2⟩
 | l32 i k=>have:=of_decide_eq_true hb; obtain ⟨h1,h2⟩:=h; exact ⟨by rw [hs i this]; exact h1,by rw [hs i this]; exact h2⟩
 | bl i=>have:=of_decide_eq_true hb; obtain ⟨h1,h2⟩:=h; exact ⟨by rw [hs i this]; exact h1,by rw [hs i this]; exact h2⟩
 | dig i k=>have:=of_decide_eq_true hb; obtain ⟨h1,h2⟩:=h; exact ⟨by rw [hs i this]; exact h1,by rw [hs i this]; exact h2⟩
 | byt i k=>have:=of_decide_eq_true hb; obtain ⟨h1,h2⟩:=h; exact ⟨by rw [hs i this]; exact h1,by rw [hs i this]; exact h2⟩
 | sg i=>have:=of_decide_eq_true hb; obtain ⟨h1,h2⟩:=h; exact ⟨by rw [hs i this]; exact h1,by rw [hs i this]; exact h2⟩
 | ptr r o=>have:=of_decide_eq_true hb; obtain ⟨h1,h2⟩:=h; exact ⟨by rw [at_eq r o this]; exact h1,this⟩
 | slc r o m c=>have:=of_decide_eq_true hb; obtain ⟨h1,h2⟩:=h; exact ⟨by rw [at_eq r o this]; exact h1,this⟩
 | sl r o m=>have:=of_decide_eq_true hb; obtain ⟨c,h0,h1,h2⟩:=h; exact ⟨c,h0,by rw [at_eq r o this]; exact h1,this⟩
 | sv r o m i =>
  simp only [A0.bel,Bool.and_eq_true,decide_eq_true_eq] at hb
  obtain ⟨h1,h2,h3⟩:=h
  exact ⟨by rw [at_eq r o hb.1,hs i hb.2]; exact h1,by rw [hs i hb.2]; exact h2,hb.1⟩
 | err=>exact h
 | sy r i=>cases hb
 | ac=>exact h
theorem rn_repV (hs:∀ i,i<nx→s2 i=s (ν i)) (hβ:∀ r,r<nr→β2 r=β (ρ r)) {x:AV} (hb:x.bel nr nx=true) {v:Value} (h:(x.rn ρ ν).rep s β n v):x.rep s2 β2 nr v:=by
 cases x with
 | one a=>exact rn_rep (n:=n) hs hβ hb h
 | agg l =>
  obtain ⟨vs,h1,h2,h3⟩:=h
  refine ⟨vs,h1,by rw [h2,List.length_map],fun j a x ha hx=>?_⟩
  exact rn_rep (n:=n) hs hβ (List.all_eq_true.1 hb a (List.mem_of_getElem? ha)) (h3 j _ x (by rw [List.getElem?_map,ha]; rfl) hx)
 | two a b=>cases hb
 | tup l=>cases hb
end
def tmL:List (Nat × AV)→Tr
 | []=>.nil
 | (t,x) :: l=>Tr.set (t+2) (tmL l) t x
theorem tmL_get:∀ {l:List (Nat × AV)} {t:Nat} {x:AV},(tmL l).get t=some x→(t,x) ∈ l
 | [],t,x,h=>by cases h
 | (u,y) :: l,t,x,h=>by
  rw [tmL] at h
  by_cases e:u=t
  ·subst e
   rw [Tr.get_set_same (u+2) _ u y (Nat.lt_of_lt_of_le Nat.lt_two_pow_self (Nat.pow_le_pow_right (by decide) (by omega)))] at h
   cases h
   exact List.mem_cons_self
  ·rw [Tr.get_set_other _ _ _ _ _ e] at h
   exact List.mem_cons_of_mem _ (tmL_get h)
def headSt (tl:List (Nat × AV)) (ml:List (Nat × List A0)) (nx nr:Nat):St:={ tm:=tmL tl,mem:=ml,nx:=nx,nr:=nr,exs:=[],out:=[],it:=[] }
theorem lkup_mem {m:List (Nat × List A0)} {r:Nat} {l:List A0} (h:lookup r m=some l):(r,l) ∈ m:=by
 induction m with
 | nil=>cases h
 | cons e m ih =>
  obtain ⟨q,k⟩:=e
  rw [lookup] at h
  cases hq:(q == r) with
  | true =>
   rw [hq,cond_true] at h
   cases h
   rw [beq_iff_eq.1 hq]
   exact List.mem_cons_self
  | false =>
   rw [hq,cond_false] at h
   exact List.mem_cons_of_mem _ (ih h)
theorem map_mem {α γ:Type} {f g:α→γ}:∀ {l:List α},l.map f=l.map g→∀ x ∈ l,f x=g x
 | y :: l,h,x,hx=>by
  rw [List.map_cons,List.map_cons] at h
  injection h with h1 h2
  rcases List.mem_cons.1 hx with rfl | hx
  ·exact h1
  ·exact map_mem h2 x hx
structure RenOk (nold nr2 nr:Nat) (ρ:Nat→Nat):Prop where
 old:∀ r,r<nold→ρ r=r
 new:∀ r,nold≤r→r<nr2→nold≤ρ r∧ρ r<nr
 inj:∀ r q,nold≤r→nold≤q→r<nr2→q<nr2→r≠q→ρ r≠ρ q
 le:nold≤nr2
theorem Rel.renew {F F2:Fix} {s s2:Nums} {β:Places} {w0:World} {st:St} {a:Act} {w:World} (hr:Rel F s β w0 st a w) (hF:F2.nt=F.nt) (hn:F2.nold=F.nold) (hw:F2.wr=F.wr) (hsp:F2.sep=F.sep) (hnp:∀ r,F2.np r=none) (hout:st.out=[])
  {ρ ν:Nat→Nat} {tl:List (Nat × AV)} {ml:List (Nat × List A0)} {nx2 nr2:Nat} (hs:∀ i,i<nx2→s2 i=s (ν i))
  (htm:tl.map (fun e=>st.tm.get e.1)=tl.map fun e=>some (e.2.rn ρ ν)) (htb:tl.all (fun e=>e.2.bel nr2 nx2)=true)
  (hmm:ml.map (fun e=>lookup (ρ e.1) st.mem)=ml.map fun e=>some (e.2.map (A0.rn ρ ν))) (hmb:ml.all (fun e=>decide (e.1<nr2) && e.2.all (A0.bel nr2 nx2))=true)
  (hρ:RenOk F.nold nr2 st.nr ρ) (hdec:Dec F2 s2):Rel F2 s2 (fun r=>β (ρ r)) w0 (headSt tl ml nx2 nr2) a w:=by
 have hβ:∀ r,r<nr2→(fun r=>β (ρ r)) r=β (ρ r):=fun _ _=>rfl
 have row:∀ r l,lookup r ml=some l→r<nr2∧l.all (A0.bel nr2 nx2)=true∧lookup (ρ r) st.mem=some (l.map (A0.rn ρ ν)):=fun r l h=>by
  have hm:=lkup_mem h
  have h1:=List.all_eq_true.1 hmb _ hm
  simp only [Bool.and_eq_true,decide_eq_true_eq] at h1
  exact ⟨h1.1,h1.2,map_mem hmm _ hm⟩
 refine { size:=by rw [hF]; exact hr.size,defs:=hr.defs,tm:=fun t x hx=>?_,mem:=fun r l hl=>?_,frz:=fun r l hl hwr j hj=>?_,fresh:=fun r h1 h2=>?_,dist:=fun r q h1 h2 h3 h4 h5=>?_,old:=fun r h=>?_,sep:=fun r q h1 h2 h3=>?_,nold:=by rw [hn]; exact hρ.le,outs:=fun e he=>(by cases he),below:=?_,dec:=hdec,it:=fun r b p h=>(by cases h),np:=fun r i j h=>(by rw [hnp r] at h; cases h) }
 ·have hm:=tmL_get hx
  have h1:=map_mem htm _ hm
  exact rn_repV (n:=st.nr) hs hβ (List.all_eq_true.1 htb _ hm) (hr.tm t _ h1)
 ·obtain ⟨h1,h2,h3⟩:=row r l hl
  obtain ⟨_,hc⟩:=hr.mem _ _ h3
  refine ⟨h1,fun j x hx=>?_⟩
  obtain ⟨v,g1,g2⟩:=hc j (x.rn ρ ν) (by rw [List.getElem?_map,hx]; rfl)
  exact ⟨v,g1,rn_rep (n:=st.nr) hs hβ (List.all_eq_true.1 h2 x (List.mem_of_getElem? hx)) g2⟩
 ·obtain ⟨h1,h2,h3⟩:=row r l hl
  rw [hn,hw] at hwr
  refine hr.frz _ _ h3 ?_ j (by rw [List.length_map]; exact hj)
  by_cases hlt:r<F.nold
  ·rw [hρ.old r hlt]; exact hwr
  ·exact .inl (hρ.new r (by omega) h1).1
 ·rw [hn] at h1
  obtain ⟨g1,g2⟩:=hρ.new r h1 h2
  exact hr.fresh _ g1 g2
 ·rw [hn] at h1 h2
  obtain ⟨g1,g2⟩:=hρ.new r h1 h3
  obtain ⟨g3,g4⟩:=hρ.new q h2 h4
  exact hr.dist _ _ g1 g3 g2 g4 (hρ.inj r q h1 h2 h3 h4 h5)
 ·rw [hn] at h
  show (β (ρ r)).1<_
  rw [hρ.old r h]
  exact hr.old r h
 ·rw [hn] at h1 h2
  show (β (ρ r)).1≠(β (ρ q)).1
  rw [hρ.old r h1,hρ.old q h2]
  exact hr.sep r q h1 h2 (by rw [← hsp]; exact h3)
 ·have:=hr.below
  rw [hout] at this
  exact this
structure Pk where
 o:Out
 nx:Nat
 exs:List Ex
 tms:List (Option AV)
 mems:List (Option (List A0))
def peek (T:Tab) (F:Fix) (f:Nat) (c:Code) (st:St) (m:Nat) (ts rs:List Nat):Option Pk :=
 match run T F f c st with
 | some (o,st')=>bif st'.out.isEmpty && decide (m≤st'.nr) then some ⟨o,st'.nx,st'.exs,ts.map st'.tm.get,rs.map fun r=>lookup r st'.mem⟩ else none
 | none=>none
theorem peek_spec {T:Tab} {F:Fix} {f:Nat} {c:Code} {st:St} {m:Nat} {ts rs:List Nat} {p:Pk} (h:peek T F f c st m ts rs=some p) :
  ∃ st',run T F f c st=some (p.o,st')∧st'.out=[]∧st'.nx=p.nx∧st'.exs=p.exs∧m≤st'.nr∧ts.map st'.tm.get=p.tms∧(rs.map fun r=>lookup r st'.mem)=p.mems:=by
 unfold peek at h
 split at h
 ·rename_i o st' hr
  rw [cond_eq_ite] at h
  split at h
  ·rename_i he
   cases h
   simp only [Bool.and_eq_true,decide_eq_true_eq] at he
   exact ⟨st',hr,List.isEmpty_iff.1 he.1,rfl,rfl,he.2,rfl,rfl⟩
  ·cases h
 ·cases h
def fixH (nt nold:Nat) (d:List (Nat × Bool)):Fix:=fixD nt nold [] [] d
structure HeadOk (tl:List (Nat × AV)) (ml:List (Nat × List A0)) (nx nr:Nat):Prop where
 tb:tl.all (fun e=>e.2.bel nr nx)=true
 mb:ml.all (fun e=>decide (e.1<nr) && e.2.all (A0.bel nr nx))=true
 ts:tl.map (fun e=>(tmL tl).get e.1)=tl.map fun e=>some e.2
 ms:ml.map (fun e=>lookup e.1 ml)=ml.map fun e=>some e.2
theorem hop_wp {T:Tab} (hT:T.Ok Try.prog) {nt nold:Nat} {d:List (Nat × Bool)} {s:Nums} {β:Places} {w0:World} {tl:List (Nat × AV)} {ml:List (Nat × List A0)} {nx nr:Nat} {a:Act} {w:World}
  (hr:Rel (fixH nt nold []) s β w0 (headSt tl ml nx nr) a w) (hh:HeadOk tl ml nx nr) (hnr:nold≤nr) {f:Nat} {c:Code} {o:Out} {st':St} {nx':Nat} {exs:List Ex} (hrun:run T (fixH nt nold d) f c (headSt tl ml nx nr)=some (o,st')) (hnx:st'.nx=nx') (hexs:st'.exs=exs)
  (hsc:inScope nx' exs=true) (hle:exs.length≤nx') (hn0:nx' - exs.length=nx)
  (hdec:∀ s1:Nums,(∀ i,i<nx→s1 i=s i)→Holds s1 nx' exs→Dec (fixH nt nold d) s1) {Q:Exit→Act→World→Prop}
  (hn:∀ (s1:Nums) (β':Places) (a':Act) (w':World),(∀ i,i<nx→s1 i=s i)→Holds s1 nx' exs→Agree β β' nr→Rel (fixH nt nold d) s1 β' w0 st' a' w'→Q o.toExit a' w'):c.wp Try.prog Q a w:=by
 obtain ⟨s1,hH,hs1⟩:=exists_nums s hle hsc
 rw [hn0] at hs1
 have hr1:Rel (fixH nt nold d) s1 β w0 (headSt tl ml nx nr) a w:=by
  have:=hr.renew (F2:=fixH nt nold d) (s2:=s1) rfl rfl rfl rfl (fun _=>rfl) rfl (ρ:=id) (ν:=id) (tl:=tl) (ml:=ml) (nx2:=nx) (nr2:=nr) hs1
   (by show tl.map (fun e=>(tmL tl).get e.1)=_; rw [hh.ts]; simp only [rn_idV]) hh.tb (by show ml.map (fun e=>lookup e.1 ml)=_; rw [hh.ms]; simp only [rn_idL]) hh.mb
   ⟨fun _ _=>rfl,fun r h1 h2=>⟨h1,h2⟩,fun r q _ _ _ _ h=>h,hnr⟩ (hdec s1 hs1 hH)
  exact this
 exact run_wp hT hr1 hrun (by rw [hnx,hexs]; exact hH) fun β' a' w' hag hr'=>hn s1 β' a' w' hs1 hH hag hr'
theorem hop {T:Tab} (hT:T.Ok Try.prog) {nt nold:Nat} {d:List (Nat × Bool)} {s:Nums} {β:Places} {w0:World} {tl:List (Nat × AV)} {ml:List (Nat × List A0)} {nx nr:Nat} {a:Act} {w:World}
  (hr:Rel (fixH nt nold []) s β w0 (headSt tl ml nx nr) a w) (hh:HeadOk tl ml nx nr) (hnr:nold≤nr) {f:Nat} {c:Code} {o:Out} {nx' nr':Nat} {exs:List Ex} (ρ ν:Nat→Nat) {tl':List (Nat × AV)} {ml':List (Nat × List A0)} {nx2 nr2:Nat}
  (hp:peek T (fixH nt nold d) f c (headSt tl ml nx nr) nr' (tl'.map fun e=>e.1) (ml'.map fun e=>ρ e.1)=some ⟨o,nx',exs,tl'.map fun e=>some (e.2.rn ρ ν),ml'.map fun e=>some (e.2.map (A0.rn ρ ν))⟩)
  (hsc:inScope nx' exs=true) (hle:exs.length≤nx') (hn0:nx' - exs.length=nx)
  (hdec:∀ s1:Nums,(∀ i,i<nx→s1 i=s i)→Holds s1 nx' exs→Dec (fixH nt nold d) s1)
  (hh':HeadOk tl' ml' nx2 nr2) (hρ:RenOk nold nr2 nr' ρ) {Q:Exit→Act→World→Prop}
  (hn:∀ (s1:Nums) (β':Places) (a':Act) (w':World),(∀ i,i<nx→s1 i=s i)→Holds s1 nx' exs→(∀ r,r<nold→β' r=β r)→Rel (fixH nt nold []) (fun i=>s1 (ν i)) β' w0 (headSt tl' ml' nx2 nr2) a' w'→Q o.toExit a' w'):c.wp Try.prog Q a w:=by
 obtain ⟨st',hrun,hout,hnx,hexs,hnr',htm,hmm⟩:=peek_spec hp
 refine hop_wp hT hr hh hnr hrun hnx hexs hsc hle hn0 hdec fun s1 β' a' w' h1 h2 hag h3=>?_
 refine hn s1 (fun r=>β' (ρ r)) a' w' h1 h2 (fun r hr=>?_) ?_
 ·show β' (ρ r)=β r
  rw [hρ.old r hr]
  exact hag r (Nat.lt_of_lt_of_le hr hnr)
 ·refine h3.renew (F2:=fixH nt nold []) rfl rfl rfl rfl (fun _=>rfl) hout (fun i _=>rfl) ?_ hh'.tb ?_ hh'.mb ⟨hρ.old,fun r h1 h2=>⟨(hρ.new r h1 h2).1,Nat.lt_of_lt_of_le (hρ.new r h1 h2).2 hnr'⟩,hρ.inj,hρ.le⟩ (fun i b h=>by cases h)
  ·have:=htm
   rw [List.map_map] at this
   exact this
  ·have:=hmm
   rw [List.map_map] at this
   exact this
end P224
/- Pieces of code that change no memory, several in a row; rows of what came in. -/
namespace P224
open Go Go.RowKit Go.Proofs
set_option maxRecDepth 100000
set_option linter.unusedVariables false
def runL (T:Tab) (F:Fix) (f:Nat):List Code→St→Option (Out × St)
 | [],st=>some (.normal,st)
 | [c],st=>run T F f c st
 | c :: d :: l,st=>match run T F f c st with
  | some (.normal,st')=>runL T F f (d :: l) st'
  | _=>none
def Reach (P:Program):List Code→(Exit→Act→World→Prop)→Act→World→Prop
 | [],K,a,w=>K .normal a w
 | [c],K,a,w=>c.wp P K a w
 | c :: d :: l,K,a,w=>∀ Q:Exit→Act→World→Prop,(∀ a' w',Reach P (d :: l) K a' w'→Q .normal a' w')→c.wp P Q a w
theorem runL_grows {P:Program} {T:Tab} (hT:T.Ok P) {F:Fix} {f:Nat}:∀ {l:List Code} {st st':St} {o:Out},runL T F f l st=some (o,st')→Grows st st'
 | [],st,st',o,h=>by cases h; exact .refl _
 | [c],st,st',o,h=>run_grows hT h
 | c :: d :: l,st,st',o,h=>by
  rw [runL] at h
  split at h
  ·rename_i st1 h1
   exact (run_grows hT h1).trans (runL_grows hT h)
  ·cases h
theorem runL_reach {P:Program} {T:Tab} (hT:T.Ok P) {F:Fix} {s:Nums} {w0:World} {f:Nat}:∀ {l:List Code} {st st':St} {o:Out} {β:Places} {a:Act} {w:World} {K:Exit→Act→World→Prop},Rel F s β w0 st a w→runL T F f l st=some (o,st')→Holds s st'.nx st'.exs →
  (∀ β' a' w',Agree β β' st.nr→Rel F s β' w0 st' a' w'→K o.toExit a' w')→Reach P l K a w
 | [],st,st',o,β,a,w,K,hr,h,hH,hn=>by cases h; exact hn β a w (Agree.refl _ _) hr
 | [c],st,st',o,β,a,w,K,hr,h,hH,hn=>run_wp hT hr h hH hn
 | c :: d :: l,st,st',o,β,a,w,K,hr,h,hH,hn=>by
  rw [runL] at h
  split at h
  ·rename_i st1 h1
   intro Q hQ
   have hg:=runL_grows hT h
   refine run_wp hT hr h1 (hg.le.holds hH) fun β1 a1 w1 hag hr1=>?_
   exact hQ a1 w1 (runL_reach hT hr1 h hH fun β' a' w' hag' hr'=>hn β' a' w' (hag.trans hag' (run_grows hT h1).nr) hr')
  ·cases h
structure Pm where
 o:Out
 nx:Nat
 exs:List Ex
 tms:List (Option AV)
 mem:List (Nat × List A0)
def peekP (T:Tab) (F:Fix) (f:Nat) (l:List Code) (st:St) (m:Nat) (ts:List Nat):Option Pm :=
 match runL T F f l st with
 | some (o,st')=>bif st'.out.isEmpty && decide (m≤st'.nr) then some ⟨o,st'.nx,st'.exs,ts.map st'.tm.get,st'.mem⟩ else none
 | none=>none
theorem peekP_spec {T:Tab} {F:Fix} {f:Nat} {l:List Code} {st:St} {m:Nat} {ts:List Nat} {p:Pm} (h:peekP T F f l st m ts=some p) :
  ∃ st',runL T F f l st=some (p.o,st')∧st'.out=[]∧st'.nx=p.nx∧st'.exs=p.exs∧m≤st'.nr∧ts.map st'.tm.get=p.tms∧st'.mem=p.mem:=by
 unfold peekP at h
 split at h
 ·rename_i o st' hr
  rw [cond_eq_ite] at h
  split at h
  ·rename_i he
   cases h
   simp only [Bool.and_eq_true,decide_eq_true_eq] at he
   exact ⟨st',hr,List.isEmpty_iff.1 he.1,rfl,rfl,he.2,rfl,rfl⟩
  ·cases h
 ·cases h
theorem hopP {T:Tab} (hT:T.Ok Try.prog) {nt nold:Nat} {d:List (Nat × Bool)} {s:Nums} {β:Places} {w0:World} {tl:List (Nat × AV)} {ml:List (Nat × List A0)} {nx nr:Nat} {a:Act} {w:World}
  (hr:Rel (fixH nt nold []) s β w0 (headSt tl ml nx nr) a w) (hh:HeadOk tl ml nx nr) (hnr:nold≤nr) {f:Nat} {l:List Code} {o:Out} {nx':Nat} {exs:List Ex} (ν:Nat→Nat) {tl':List (Nat × AV)} {ml':List (Nat × List A0)} {nx2:Nat}
  (hp:peekP T (fixH nt nold d) f l (headSt tl ml nx nr) nr (tl'.map fun e=>e.1)=some ⟨o,nx',exs,tl'.map fun e=>some (e.2.rn id ν),ml⟩)
  (hsc:inScope nx' exs=true) (hle:exs.length≤nx') (hn0:nx' - exs.length=nx)
  (hdec:∀ s1:Nums,(∀ i,i<nx→s1 i=s i)→Holds s1 nx' exs→Dec (fixH nt nold d) s1)
  (hh':HeadOk tl' ml' nx2 nr) (hml:ml'.map (fun e=>lookup e.1 ml)=ml'.map fun e=>some (e.2.map (A0.rn id ν))) {K:Exit→Act→World→Prop}
  (hn:∀ (s1:Nums) (β':Places) (a':Act) (w':World),(∀ i,i<nx→s1 i=s i)→Holds s1 nx' exs→(∀ r,r<nold→β' r=β r)→Rel (fixH nt nold []) (fun i=>s1 (ν i)) β' w0 (headSt tl' ml' nx2 nr) a' w'→K o.toExit a' w'):Reach Try.prog l K a w:=by
 obtain ⟨st',hrun,hout,hnx,hexs,hnr',htm,hmm⟩:=peekP_spec hp
 obtain ⟨s1,hH,hs1⟩:=exists_nums s hle hsc
 rw [hn0] at hs1
 have hr1:Rel (fixH nt nold d) s1 β w0 (headSt tl ml nx nr) a w:=by
  have:=hr.renew (F2:=fixH nt nold d) (s2:=s1) rfl rfl rfl rfl (fun _=>rfl) rfl (ρ:=id) (ν:=id) (tl:=tl) (ml:=ml) (nx2:=nx) (nr2:=nr) hs1
   (by show tl.map (fun e=>(tmL tl).get e.1)=_; rw [hh.ts]; simp only [rn_idV]) hh.tb (by show ml.map (fun e=>lookup e.1 ml)=_; rw [hh.ms]; simp only [rn_idL]) hh.mb
   ⟨fun _ _=>rfl,fun r h1 h2=>⟨h1,h2⟩,fun r q _ _ _ _ h=>h,hnr⟩ (hdec s1 hs1 hH)
  exact this
 refine runL_reach hT hr1 hrun (by rw [hnx,hexs]; exact hH) fun β' a' w' hag h3=>?_
 refine hn s1 β' a' w' hs1 hH (fun r hr=>hag r (Nat.lt_of_lt_of_le hr hnr)) ?_
 refine h3.renew (F2:=fixH nt nold []) rfl rfl rfl rfl (fun _=>rfl) hout (ρ:=id) (fun i _=>rfl) ?_ hh'.tb ?_ hh'.mb ⟨fun _ _=>rfl,fun r h1 h2=>⟨h1,Nat.lt_of_lt_of_le h2 hnr'⟩,fun r q _ _ _ _ h=>h,hnr⟩ (fun i b h=>by cases h)
 ·have:=htm
  rw [List.map_map] at this
  exact this
 ·rw [hmm]
  exact hml
theorem Rel.addRow {F:Fix} {s:Nums} {β:Places} {w0:World} {tl:List (Nat × AV)} {ml:List (Nat × List A0)} {nx nr:Nat} {a:Act} {w:World} (hr:Rel F s β w0 (headSt tl ml nx nr) a w) (hwr:∀ r,F.wr r=false) {r:Nat} {l:List A0} {nx2:Nat} (hlt:r<F.nold)
  (hl:∀ (j:Nat) (x:A0),l[j]?=some x→∃ v,w0.cell? (at_ β r j)=some v∧x.rep s β nr v):Rel F s β w0 (headSt tl ((r,l) :: ml) nx2 nr) a w:=by
 have hb:Below w0.heap.size w0 w:=hr.below
 have look:∀ q k,lookup q ((r,l) :: ml)=some k→(q=r∧k=l)∨lookup q ml=some k:=fun q k h=>by
  rw [lookup] at h
  cases hq:(r == q) with
  | true=>rw [hq,cond_true] at h; cases h; exact .inl ⟨(beq_iff_eq.1 hq).symm,rfl⟩
  | false=>rw [hq,cond_false] at h; exact .inr h
 refine { size:=hr.size,defs:=hr.defs,tm:=hr.tm,mem:=fun q k hq=>?_,frz:=fun q k hq hw j hj=>?_,fresh:=hr.fresh,dist:=hr.dist,old:=hr.old,sep:=hr.sep,nold:=hr.nold,outs:=hr.outs,below:=hr.below,dec:=hr.dec,it:=fun q b p hh=>(by cases hh),np:=hr.np }
 ·rcases look q k hq with ⟨rfl,rfl⟩ | hq
  ·refine ⟨Nat.lt_of_lt_of_le hlt hr.nold,fun j x hx=>?_⟩
   obtain ⟨v,h1,h2⟩:=hl j x hx
   exact ⟨v,by rw [hb.cell (p:=at_ β q j) (hr.old q hlt)]; exact h1,h2⟩
  ·exact hr.mem q k hq
 ·rcases look q k hq with ⟨rfl,rfl⟩ | hq
  ·rcases hw with h | h
   ·omega
   ·rw [hwr q] at h; cases h
  ·exact hr.frz q k hq hw j hj
end P224
/- Points by three coordinates (x / z^2, y / z^3): twice, and one more; no program in sight. -/
namespace P224
section
variable {n:Nat} [NeZero n]
theorem za1 {A C i:Fin n} (hi:C*i=1):C*(A*i)=A:=by
 have:C*(A*i)=A*(C*i):=by grind
 rw [this,hi]; grind
theorem za2 (c z:Fin n):2*(c*(z*(z*z))*z)=(c+c)*(z*z*(z*z)):=by grind
theorem za3 {a c l:Fin n} (z:Fin n) (h:(c+c)*l=3*(a*a) - 3):3*((a*(z*z) - z*z)*(a*(z*z)+z*z))=(c+c)*l*(z*z*(z*z)):=by rw [h]; grind
theorem za4 (a c z:Fin n):4*(a*(z*z)*(c*(z*(z*z))*(c*(z*(z*z)))))=4*(a*(c*c))*(z*z*(z*z)*(z*z*(z*z))):=by grind
theorem za5 (a c l z:Fin n):(c+c)*l*(z*z*(z*z))*((c+c)*l*(z*z*(z*z))) - (4*(a*(c*c))*(z*z*(z*z)*(z*z*(z*z)))+4*(a*(c*c))*(z*z*(z*z)*(z*z*(z*z))))=(l*l - a - a)*((c+c)*(z*z*(z*z))*((c+c)*(z*z*(z*z)))):=by grind
theorem za6 (a c l z:Fin n):(c+c)*l*(z*z*(z*z))*(4*(a*(c*c))*(z*z*(z*z)*(z*z*(z*z))) - (l*l - a - a)*((c+c)*(z*z*(z*z))*((c+c)*(z*z*(z*z))))) - 8*(c*(z*(z*z))*(c*(z*(z*z)))*(c*(z*(z*z))*(c*(z*(z*z))))) =
  (l*(a - (l*l - a - a)) - c)*((c+c)*(z*z*(z*z))*((c+c)*(z*z*(z*z))*((c+c)*(z*z*(z*z))))):=by grind
theorem za7 (a a' z:Fin n):a*(z*z) - a'*(z*z)=(a - a')*(z*z):=by grind
theorem za8 (c c' z:Fin n):c*(z*(z*z)) - c'*(z*(z*z))=(c - c')*(z*(z*z)):=by grind
theorem za9 (a z:Fin n):(a - a)*(z*z)=0:=by grind
theorem zb1 (d z:Fin n):z*(d*(z*z))=d*(z*(z*z)):=by grind
theorem zb2 {a a' d:Fin n} (l z:Fin n) (h:d=a - a'):d*l*(z*(z*z))*(d*l*(z*(z*z))) - d*(z*z)*(d*(z*z)*(d*(z*z))) - (a'*(z*z)*(d*(z*z)*(d*(z*z)))+a'*(z*z)*(d*(z*z)*(d*(z*z))))=(l*l - a' - a)*(d*(z*(z*z))*(d*(z*(z*z)))):=by
 have e:a=a'+d:=by rw [h]; grind
 rw [e]; grind
theorem zb3 {a a' d:Fin n} (c' l z:Fin n) (h:d=a - a'):d*l*(z*(z*z))*(a'*(z*z)*(d*(z*z)*(d*(z*z))) - (l*l - a' - a)*(d*(z*(z*z))*(d*(z*(z*z))))) - c'*(z*(z*z))*(d*(z*z)*(d*(z*z)*(d*(z*z)))) =
  (l*(a' - (l*l - a' - a)) - c')*(d*(z*(z*z))*(d*(z*(z*z))*(d*(z*(z*z))))):=by
 have e:a=a'+d:=by rw [h]; grind
 rw [e]; grind
theorem zb5 (x y:Fin n):x=x*(1*1)∧y=y*(1*(1*1)):=⟨by grind,by grind⟩
theorem zb6 {u a x:Fin n} (h:a*u - x=0):u*a=x:=by grind
theorem zb7 {a a':Fin n} (h:a - a'=0):a'=a:=by grind
theorem zb8 (y:Fin n):2*(y*0)=0:=by grind
theorem zb9 (x:Fin n):(0:Fin n)+0=0∧x*0=0:=⟨by grind,by grind⟩
theorem zc1 (a u:Fin n):a*u=u*a:=by grind
variable {b:Fin n}
def JRep (x y z:Fin n):Pt n→Prop
 | .far=>z=0
 | .pt a c=>z≠0∧x=a*(z*z)∧y=c*(z*(z*z))
theorem jtwice (h:Fine b) {x y z:Fin n} {p:Pt n} (hp:OnC b p) (hj:JRep x y z p) {d g be al f x3 y3 z3:Fin n}
  (hd:d=z*z) (hg:g=y*y) (hbe:be=x*g) (hal:al=3*((x - d)*(x+d))) (hf:f=4*be) (hx:x3=al*al - (f+f)) (hy:y3=al*(f - x3) - 8*(g*g)) (hz:z3=2*(y*z)):JRep x3 y3 z3 (padd p p):=by
 cases p with
 | far =>
  have hz0:z=0:=hj
  show z3=0
  rw [hz,hz0]
  exact zb8 y
 | pt a c =>
  obtain ⟨z0,ex,ey⟩:=hj
  have c0:=h.y_ne hp
  have c2:c+c≠0:=fun e=>c0 (h.half (by rw [e,(zb9 c).1]))
  have hi:=mul_finv h.prime c2
  have h1:¬ (a≠a):=fun h=>h rfl
  have h2:¬ (c≠c∨c=0):=fun h=>h.elim (fun h=>h rfl) c0
  show JRep x3 y3 z3 (if a≠a then _ else if c≠c∨c=0 then _ else _)
  rw [if_neg h1,if_neg h2]
  have hl2:=za1 (A:=3*(a*a) - 3) hi
  generalize (3*(a*a) - 3)*finv (c+c)=l at hl2 ⊢
  have ez:z3=(c+c)*(z*z*(z*z)):=by rw [hz,ey]; exact za2 c z
  have e1:al=(c+c)*l*(z*z*(z*z)):=by rw [hal,hd,ex]; exact za3 z hl2
  have e2:f=4*(a*(c*c))*(z*z*(z*z)*(z*z*(z*z))):=by rw [hf,hbe,hg,ex,ey]; exact za4 a c z
  have e5:x3=(l*l - a - a)*(z3*z3):=by rw [hx,e1,e2,ez]; exact za5 a c l z
  refine ⟨?_,e5,?_⟩
  ·rw [ez]
   exact mul_ne_zero h.prime c2 (mul_ne_zero h.prime (mul_ne_zero h.prime z0 z0) (mul_ne_zero h.prime z0 z0))
  ·show y3=(l*(a - (l*l - a - a)) - c)*(z3*(z3*z3))
   rw [hy,e5,e1,e2,hg,ey,ez]
   exact za6 a c l z
theorem jone (x y:Fin n) (h1:(1:Fin n)≠0):JRep x y 1 (.pt x y):=⟨h1,(zb5 x y).1,(zb5 x y).2⟩
theorem jsame (h:Fine b) {x y z a c:Fin n} {p:Pt n} (z0:z≠0) (hj:JRep x y z p) (hh:a*(z*z) - x=0) (hr:c*(z*(z*z)) - y=0):p=.pt a c:=by
 cases p with
 | far=>exact absurd hj z0
 | pt a' c' =>
  obtain ⟨_,ex,ey⟩:=hj
  have e1:(z*z)*a=(z*z)*a':=by rw [zb6 hh,ex]; exact zc1 _ _
  have e2:(z*(z*z))*c=(z*(z*z))*c':=by rw [zb6 hr,ey]; exact zc1 _ _
  rw [mul_left_cancel0 h.prime (mul_ne_zero h.prime z0 z0) e1,mul_left_cancel0 h.prime (mul_ne_zero h.prime z0 (mul_ne_zero h.prime z0 z0)) e2]
theorem jmore (h:Fine b) {x y z a c:Fin n} {p:Pt n} (z0:z≠0) (hj:JRep x y z p) {zz hh r h2 h3 v x3 y3 z3:Fin n} (ezz:zz=z*z) (eh:hh=a*zz - x) (er:r=c*(z*zz) - y) (hn:¬ (hh=0∧r=0))
  (e2:h2=hh*hh) (e3:h3=hh*h2) (ev:v=x*h2) (hx:x3=r*r - h3 - (v+v)) (hy:y3=r*(v - x3) - y*h3) (hz:z3=z*hh):JRep x3 y3 z3 (padd p (.pt a c)):=by
 cases p with
 | far=>exact absurd hj z0
 | pt a' c' =>
  obtain ⟨_,ex,ey⟩:=hj
  have fh:hh=(a - a')*(z*z):=by rw [eh,ezz,ex]; exact za7 a a' z
  have fr:r=(c - c')*(z*(z*z)):=by rw [er,ezz,ey]; exact za8 c c' z
  by_cases ha:a'=a
  ·subst ha
   have h0:hh=0:=by rw [fh]; exact za9 a' z
   have hc:c'≠c:=fun e=>hn ⟨h0,by rw [fr,e,Fin.sub_self,Fin.zero_mul]⟩
   have h1:¬ (a'≠a'):=fun h=>h rfl
   show JRep x3 y3 z3 (if a'≠a' then _ else if c'≠c∨c'=0 then _ else _)
   rw [if_neg h1,if_pos (.inl hc)]
   show z3=0
   rw [hz,h0]
   exact (zb9 z).2
  ·have d0:a - a'≠0:=fun e=>ha (zb7 e)
   have hi:=mul_finv h.prime d0
   show JRep x3 y3 z3 (if a'≠a then _ else _)
   rw [if_pos ha]
   have hl2:=za1 (A:=c - c') hi
   generalize (c - c')*finv (a - a')=l at hl2 ⊢
   have fr2:r=(a - a')*l*(z*(z*z)):=by rw [fr,hl2]
   generalize hd:a - a'=d at *
   have ez:z3=d*(z*(z*z)):=by rw [hz,fh]; exact zb1 d z
   have e5:x3=(l*l - a' - a)*(z3*z3):=by
    rw [hx,fr2,e3,ev,e2,fh,ez,ex]
    exact zb2 l z hd.symm
   refine ⟨?_,e5,?_⟩
   ·rw [ez]
    exact mul_ne_zero h.prime d0 (mul_ne_zero h.prime z0 (mul_ne_zero h.prime z0 z0))
   ·show y3=(l*(a' - (l*l - a' - a)) - c')*(z3*(z3*z3))
    rw [hy,e5,fr2,e3,ev,e2,fh,ez,ex,ey]
    exact zb3 c' l z hd.symm
end
end P224
/- The reference's Multiple: its code in pieces, its heads. -/
namespace P224
open Go Go.RowKit Go.Proofs
set_option maxRecDepth 100000
set_option linter.unusedVariables false
def sL:Code→Code | .seq a _=>a | c=>c
def sR:Code→Code | .seq _ b=>b | c=>c
def bI:Code→Code | .block _ c=>c | c=>c
def lI:Code→Code | .loop c=>c | c=>c
noncomputable def c24:Code:=Try.f24.body.getD .skip
noncomputable def k0:Code:=sL c24
noncomputable def k1:Code:=sL (sR c24)
noncomputable def k3:Code:=sL (sR (sR c24))
noncomputable def k4:Code:=sL (sL (sR (sR (sR c24))))
noncomputable def kB:Code:=sR (sL (sR (sR (sR c24))))
noncomputable def kP:Code:=sR (sR (sR (sR c24)))
noncomputable def o1:Code:=sL (lI (bI kB))
noncomputable def o3:Code:=sL (sR (lI (bI kB)))
noncomputable def o4:Code:=sR (sR (lI (bI kB)))
noncomputable def o13:Code:=sR o4
noncomputable def i6:Code:=sL (bI (sL o4))
noncomputable def i7:Code:=sL (sR (bI (sL o4)))
noncomputable def kI:Code:=lI (bI (sR (sR (bI (sL o4)))))
noncomputable def iA:Code:=sL kI
noncomputable def iT:Code:=sL (bI (sL (sR kI)))
noncomputable def iB:Code:=sL (sR (bI (sL (sR kI))))
noncomputable def iM:Code:=sR (sR (bI (sL (sR kI))))
noncomputable def iE:Code:=sR (sR kI)
noncomputable def kO:Code:=lI (bI kB)
theorem shapeI:kI=.seq iA (.seq (.block 3 (.seq iT (.seq iB iM))) iE):=by kernel_rfl
structure Hd where
 rx:Nat
 ry:Nat
 rz:Nat
 cz:Nat
 rows:List (Nat × List A0)
 X:Wd
 Y:Wd
 Z:Wd
def litR (n:Int):List A0:=.lit (.int .i64 n) :: List.replicate 6 (.lit (.int .i64 0))
def hA:Hd:=⟨8,9,10,14,[(8,l32s 2),(9,l32s 3),(10,l32s 4)],.v 2,.v 3,.v 4⟩
def hB:Hd:=⟨1,2,8,7,[(8,litR 1)],.v 0,.v 1,.c 1⟩
def hC:Hd:=⟨8,9,10,7,[(8,litR 1),(9,litR 1),(10,litR 0)],.c 1,.c 1,.c 0⟩
inductive IsHd:Hd→Prop where
 | a:IsHd hA
 | b:IsHd hB
 | c:IsHd hC
def curveL:List A0:=[.lit (.int .i64 224),.lit (.int .i64 28),.lit (.int .i64 7),.slc 0 0 2 2]
def memH (h:Hd):List (Nat × List A0) :=
 (0,foldCells) :: (1,l32s 0) :: (2,l32s 1) :: (4,curveL) :: (5,[.lit (.bool false),.slc 1 0 7 7,.slc 2 0 7 7]) :: (6,[.lit (.bool false),.lit (.slice none 0 0),.lit (.slice none 0 0)]) :: (7,[.slc h.rx 0 7 7,.slc h.ry 0 7 7,.slc h.rz 0 7 h.cz]) :: h.rows
def tmO (N k:Nat):List (Nat × AV):=[(3,.one (.ptr 4 0)),(5,.one (.ptr 5 0)),(6,.one (.ptr 6 0)),(7,.one (.ptr 7 0)),(23,.one (.sl 3 0 N)),(24,.one (.lit (.int .i64 N))),(25,.one (.lit (.int .i64 k)))]
def tmI (N k j:Nat):List (Nat × AV):=(9,.one (.num .u8 5)) :: (10,.one (.lit (.int .i64 ((j:Int) - 1)))) :: tmO N k
def tmJ (N k j:Nat):List (Nat × AV):=(40,.one (.bl 6)) :: tmI N k j
def ρ3 (p q r i:Nat):Nat:=if i=8 then p else if i=9 then q else if i=10 then r else i
def ν3 (p q r i:Nat):Nat:=if i=2 then p else if i=3 then q else if i=4 then r else i
def memR (h:Hd) (ρ ν:Nat→Nat):List (Option (List A0)) :=
 some foldCells :: some (l32s 0) :: some (l32s 1) :: some curveL :: some [.lit (.bool false),.slc 1 0 7 7,.slc 2 0 7 7] :: some [.lit (.bool false),.lit (.slice none 0 0),.lit (.slice none 0 0)] :: some [.slc (ρ h.rx) 0 7 7,.slc (ρ h.ry) 0 7 7,.slc (ρ h.rz) 0 7 h.cz] :: h.rows.map fun e=>some (e.2.map (A0.rn ρ ν))
def twE (X Y Z:Wd) (b:Nat) (l:List Ex):List Ex :=
 .fmul (.c 2) (.v (b+16)) :: .fmul Y Z :: .op 14 [.v (b+12),.v (b+14)] :: .fmul (.c 8) (.v (b+13)) :: .fmul (.v (b+1)) (.v (b+1)) :: .fmul (.v (b+6)) (.v (b+11)) :: .op 14 [.v (b+7),.v (b+10)] :: .op 14 [.v (b+8),.v (b+9)] :: .fadd (.v (b+7)) (.v (b+7)) ::
 .fmul (.v (b+6)) (.v (b+6)) :: .fmul (.c 4) (.v (b+2)) :: .fmul (.c 3) (.v (b+5)) :: .fmul (.v (b+3)) (.v (b+4)) :: .fadd X (.v b) :: .op 14 [X,.v b] :: .fmul X (.v (b+1)) :: .fmul Y Y :: .fmul Z Z :: l
def bitE (j:Nat):List Ex:=[.feq (.v 8) (.c 1),.and (.v 7) (.c 1),.shr (j - 1) (.v 5)]
def zE:List Ex:=[.feq (.v 4) (.c 0)]
def hrE:List Ex:=.feq (.v 10) (.c 0) :: .op 14 [.v 12,.v 3] :: .fmul (.v 1) (.v 11) :: .fmul (.v 4) (.v 8) :: .op 14 [.v 9,.v 2] :: .fmul (.v 0) (.v 8) :: .fmul (.v 4) (.v 4) :: zE
def gE (g:Nat) (l:List Ex):List Ex :=
 .fmul (.v 4) (.v 10) :: .op 14 [.v (g+8),.v (g+9)] :: .fmul (.v 3) (.v (g+1)) :: .fmul (.v 13) (.v (g+7)) :: .op 14 [.v (g+2),.v (g+6)] :: .op 14 [.v (g+4),.v (g+5)] :: .fadd (.v (g+2)) (.v (g+2)) :: .op 14 [.v (g+3),.v (g+1)] :: .fmul (.v 13) (.v 13) :: .fmul (.v 2) (.v g) :: .fmul (.v 10) (.v g) :: .fmul (.v 10) (.v 10) :: l
end P224
/- The reference's Multiple: the runs of a round's pieces. -/
namespace P224
open Go Go.RowKit Go.Proofs
set_option maxRecDepth 100000
set_option linter.unusedVariables false
def Piece (c:Code) (tl tl':List (Nat × AV)) (h:Hd) (d:List (Nat × Bool)) (nx:Nat) (ex:List Ex) (h':Hd) (m p q r x y z:Nat):Prop :=
 peek (tabM xb1) (fixH 74 4 d) 3000 c (headSt tl (memH h) 7 11) m (tl'.map fun e=>e.1) ((memH h').map fun e=>ρ3 p q r e.1)=some ⟨.normal,nx,ex,tl'.map fun e=>some (e.2.rn (ρ3 p q r) (ν3 x y z)),memR h' (ρ3 p q r) (ν3 x y z)⟩
theorem pT_A (N k j:Nat):Piece iT (tmI N k j) (tmI N k j) hA [] 25 (twE (.v 2) (.v 3) (.v 4) 7 []) hA 40 28 35 39 17 22 24:=by unfold Piece; kernel_rfl
theorem pT_B (N k j:Nat):Piece iT (tmI N k j) (tmI N k j) hB [] 25 (twE (.v 0) (.v 1) (.c 1) 7 []) hA 40 28 35 39 17 22 24:=by unfold Piece; kernel_rfl
theorem pT_C (N k j:Nat):Piece iT (tmI N k j) (tmI N k j) hC [] 25 (twE (.c 1) (.c 1) (.c 0) 7 []) hA 40 28 35 39 17 22 24:=by unfold Piece; kernel_rfl
theorem pM_0 (N k j:Nat):Piece iM (tmJ N k j) (tmI N k j) hA [(6,false)] 7 [] hA 11 8 9 10 2 3 4:=by unfold Piece; kernel_rfl
theorem pM_z (N k j:Nat):Piece iM (tmJ N k j) (tmI N k j) hA [(6,true),(7,true)] 8 zE hB 19 18 12 13 2 3 4:=by unfold Piece; kernel_rfl
theorem pM_s (N k j:Nat):Piece iM (tmJ N k j) (tmI N k j) hA [(6,true),(7,false),(14,true),(15,true)] 34 (twE (.v 2) (.v 3) (.v 4) 16 (.feq (.v 13) (.c 0) :: hrE)) hA 52 40 47 51 26 31 33:=by unfold Piece; kernel_rfl
theorem pM_g (N k j:Nat):Piece iM (tmJ N k j) (tmI N k j) hA [(6,true),(7,false),(14,false)] 27 (gE 15 hrE) hA 35 29 33 34 21 25 26:=by unfold Piece; kernel_rfl
theorem pM_h (N k j:Nat):Piece iM (tmJ N k j) (tmI N k j) hA [(6,true),(7,false),(14,true),(15,false)] 28 (gE 16 (.feq (.v 13) (.c 0) :: hrE)) hA 35 29 33 34 22 26 27:=by unfold Piece; kernel_rfl
def Plain (l:List Code) (tl tl':List (Nat × AV)) (o:Out) (nx:Nat) (ex:List Ex) (ν:Nat→Nat):Prop :=
 ∀ ml:List (Nat × List A0),peekP (tabM xb1) (fixH 74 4 []) 3000 l (headSt tl ml 7 11) 11 (tl'.map fun e=>e.1)=some ⟨o,nx,ex,tl'.map fun e=>some (e.2.rn id ν),ml⟩
theorem lt8 {j:Nat} (h:j<8):j=0∨j=1∨j=2∨j=3∨j=4∨j=5∨j=6∨j=7:=by omega
theorem pA (N k:Nat) {j:Nat} (hj:j<8):Plain [iA] (tmI N k (j+1)) (tmI N k (j+1)) .normal 7 [] id:=by
 intro ml
 rcases lt8 hj with rfl | rfl | rfl | rfl | rfl | rfl | rfl | rfl <;> kernel_rfl
theorem pA_out (N k:Nat):Plain [kI] (tmI N k 0) (tmO N k) (.exit 2) 7 [] id:=by
 intro ml
 kernel_rfl
def νb (i:Nat):Nat:=if i=6 then 9 else i
theorem pB (N k:Nat) {j:Nat} (hj:j<8):Plain [iB] (tmI N k (j+1)) (tmJ N k (j+1)) .normal 10 (bitE (j+1)) νb:=by
 intro ml
 rcases lt8 hj with rfl | rfl | rfl | rfl | rfl | rfl | rfl | rfl <;> kernel_rfl
theorem pE (N k:Nat) {j:Nat} (hj:j<8):Plain [iE] (tmI N k (j+1)) (tmI N k j) .normal 7 [] id:=by
 intro ml
 rcases lt8 hj with rfl | rfl | rfl | rfl | rfl | rfl | rfl | rfl <;> kernel_rfl
def νk (k i:Nat):Nat:=if i=5 then 7+k else i
def PlainO (N k:Nat):Prop :=
 ∀ ml:List (Nat × List A0),peekP (tabM xb1) (fixH 74 4 []) 3000 [o1,o3,i6,i7] (headSt (tmO N k) ((3,numsFrom .u8 7 N) :: ml) (7+N) 11) 11 ((tmI N k 8).map fun e=>e.1)=some ⟨.normal,7+N,[],(tmI N k 8).map fun e=>some (e.2.rn id (νk k)),(3,numsFrom .u8 7 N) :: ml⟩
def PlainN (N k:Nat):Prop:=Plain [o13] (tmO N k) (tmO N (k+1)) .normal 7 [] id
theorem lt28 {i:Nat} (h:i<28):i=0∨i=1∨i=2∨i=3∨i=4∨i=5∨i=6∨i=7∨i=8∨i=9∨i=10∨i=11∨i=12∨i=13∨i=14∨i=15∨i=16∨i=17∨i=18∨i=19∨i=20∨i=21∨i=22∨i=23∨i=24∨i=25∨i=26∨i=27:=by omega
theorem pO28 {k:Nat} (hk:k<28):PlainO 28 k:=by
 intro ml
 rcases lt28 hk with rfl | rfl | rfl | rfl | rfl | rfl | rfl | rfl | rfl | rfl | rfl | rfl | rfl | rfl | rfl | rfl | rfl | rfl | rfl | rfl | rfl | rfl | rfl | rfl | rfl | rfl | rfl | rfl <;> kernel_rfl
theorem pN28 {k:Nat} (hk:k<28):PlainN 28 k:=by
 intro ml
 rcases lt28 hk with rfl | rfl | rfl | rfl | rfl | rfl | rfl | rfl | rfl | rfl | rfl | rfl | rfl | rfl | rfl | rfl | rfl | rfl | rfl | rfl | rfl | rfl | rfl | rfl | rfl | rfl | rfl | rfl <;> kernel_rfl
theorem pO1 {k:Nat} (hk:k<1):PlainO 1 k:=by
 intro ml
 obtain rfl:k=0:=by omega
 kernel_rfl
theorem pN1 {k:Nat} (hk:k<1):PlainN 1 k:=by
 intro ml
 obtain rfl:k=0:=by omega
 kernel_rfl
theorem pX28:Plain [kO] (tmO 28 28) (tmO 28 28) (.exit 0) 7 [] id:=by
 intro ml
 kernel_rfl
theorem pX1:Plain [kO] (tmO 1 1) (tmO 1 1) (.exit 0) 7 [] id:=by
 intro ml
 kernel_rfl
end P224
