/- More operations: a byte's bits. -/
import Derived.Test.YtccmmkgiamcgeaaHP1
set_option linter.all false
namespace P224
open Go Go.RowKit Go.Proofs
set_option maxRecDepth 100000
set_option linter.unusedVariables false
end P224
/- A loop by its rounds: what is known at its head, renumbered. -/
namespace P224
open Go Go.RowKit Go.Proofs
set_option maxRecDepth 100000
set_option linter.unusedVariables false
def A0.rn (ρ ν:Nat→Nat):A0→A0
 | .any=>.any
 | .lit v=>.lit v
 | .num k i=>.num k (ν i)
 | .bit k i=>.bit k (ν i)
 | .limb i k=>.limb (ν i) k
 | .ptr r o=>.ptr (ρ r) o
 | .slc r o n c=>.slc (ρ r) o n c
 | .l32 i k=>.l32 (ν i) k
 | .bl i=>.bl (ν i)
 | .dig i k=>.dig (ν i) k
 | .byt i k=>.byt (ν i) k
 | .sg i=>.sg (ν i)
 | .sl r o n=>.sl (ρ r) o n
 | .sv r o n i=>.sv (ρ r) o n (ν i)
 | .err=>.err
 | .sy r i=>.sy (ρ r) (ν i)
 | .ac=>.ac
def A0.bel (nr nx:Nat):A0→Bool
 | .num _ i | .bit _ i | .limb i _ | .l32 i _ | .bl i | .dig i _ | .byt i _ | .sg i=>decide (i<nx)
 | .ptr r _ | .slc r _ _ _ | .sl r _ _=>decide (r<nr)
 | .sv r _ _ i=>decide (r<nr) && decide (i<nx)
 | .sy _ _=>false
 | _=>true
def AV.rn (ρ ν:Nat→Nat):AV→AV
 | .one a=>.one (a.rn ρ ν)
 | .agg l=>.agg (l.map (A0.rn ρ ν))
 | x=>x
def AV.bel (nr nx:Nat):AV→Bool
 | .one a=>a.bel nr nx
 | .agg l=>l.all (A0.bel nr nx)
 | _=>false
theorem rn_id (x:A0):x.rn id id=x:=by cases x <;> rfl
theorem rn_idL (l:List A0):l.map (A0.rn id id)=l:=by
 induction l with
 | nil=>rfl
 | cons x l ih=>rw [List.map_cons,ih,rn_id]
theorem rn_idV (x:AV):x.rn id id=x:=by
 cases x with
 | one a=>show AV.one (a.rn id id)=_; rw [rn_id]
 | agg l=>show AV.agg (l.map (A0.rn id id))=_; rw [rn_idL]
 | two a b=>rfl
 | tup l=>rfl
section
variable {s s2:Nums} {β β2:Places} {n nr nx:Nat} {ρ ν:Nat→Nat}
theorem rn_rep (hs:∀ i,i<nx→s2 i=s (ν i)) (hβ:∀ r,r<nr→β2 r=β (ρ r)) {x:A0} (hb:x.bel nr nx=true) {v:Value} (h:(x.rn ρ ν).rep s β n v):x.rep s2 β2 nr v:=by
 have at_eq:∀ r o,r<nr→at_ β2 r o=at_ β (ρ r) o:=fun r o hr=>by rw [at_,at_,hβ r hr]
 cases x with
 | any=>trivial
 | lit u=>exact h
 | num k i=>have:=of_decide_eq_true hb; obtain ⟨h1,h2⟩:=h; exact ⟨by rw [hs i this]; exact h1,by rw [hs i this]; exact h2⟩
 | bit k i=>have:=of_decide_eq_true hb; obtain ⟨h1,h2⟩:=h; exact ⟨by rw [hs i this]; exact h1,by rw [hs i this]; exact h2⟩
 | limb i k=>have:=of_decide_eq_true hb; obtain ⟨h1,h2⟩:=h; exact ⟨by rw [hs i this]; exact h1,by rw [hs i this]; exact h2⟩
 | l32 i k=>have:=of_decide_eq_true hb; obtain ⟨h1,h2⟩:=h; exact ⟨by rw [hs i this]; exact h1,by rw [hs i this]; exact h2⟩
 | bl i=>have:=of_decide_eq_true hb; obtain ⟨h1,h2⟩:=h; exact ⟨by rw [hs i this]; exact h1,by rw [hs i this]; exact h2⟩
 | dig i k=>have:=of_decide_eq_true hb; obtain ⟨h1,h2⟩:=h; exact ⟨by rw [hs i this]; exact h1,by rw [hs i this]; exact h2⟩
 | byt i k=>have:=of_decide_eq_true hb; obtain ⟨h1,h2⟩:=h; exact ⟨by rw [hs i this]; exact h1,by rw [hs i this]; exact h2⟩
 | sg i=>have:=of_decide_eq_true hb; obtain ⟨h1,h2⟩:=h; exact ⟨by rw [hs i this]; exact h1,by rw [hs i this]; exact h2⟩
 | ptr r o=>have:=of_decide_eq_true hb; obtain ⟨h1,h2⟩:=h; exact ⟨by rw [at_eq r o this]; exact h1,this⟩
 | slc r o m c=>have:=of_decide_eq_true hb; obtain ⟨h1,h2⟩:=h; exact ⟨by rw [at_eq r o this]; exact h1,this⟩
 | sl r o m=>have:=of_decide_eq_true hb; obtain ⟨c,h0,h1,h2⟩:=h; exact ⟨c,h0,by rw [at_eq r o this]; exact h1,this⟩
 | sv r o m i =>
  simp only [A0.bel,Bool.and_eq_true,decide_eq_true_eq] at hb
  obtain ⟨h1,h2,h3⟩:=h
  exact ⟨by rw [at_eq r o hb.1,hs i hb.2]; exact h1,by rw [hs i hb.2]; exact h2,hb.1⟩
 | err=>exact h
 | sy r i=>cases hb
 | ac=>exact h
theorem rn_repV (hs:∀ i,i<nx→s2 i=s (ν i)) (hβ:∀ r,r<nr→β2 r=β (ρ r)) {x:AV} (hb:x.bel nr nx=true) {v:Value} (h:(x.rn ρ ν).rep s β n v):x.rep s2 β2 nr v:=by
 cases x with
 | one a=>exact rn_rep (n:=n) hs hβ hb h
 | agg l =>
  obtain ⟨vs,h1,h2,h3⟩:=h
  refine ⟨vs,h1,by rw [h2,List.length_map],fun j a x ha hx=>?_⟩
  exact rn_rep (n:=n) hs hβ (List.all_eq_true.1 hb a (List.mem_of_getElem? ha)) (h3 j _ x (by rw [List.getElem?_map,ha]; rfl) hx)
 | two a b=>cases hb
 | tup l=>cases hb
end
def tmL:List (Nat × AV)→Tr
 | []=>.nil
 | (t,x) :: l=>Tr.set (t+2) (tmL l) t x
theorem tmL_get:∀ {l:List (Nat × AV)} {t:Nat} {x:AV},(tmL l).get t=some x→(t,x) ∈ l
 | [],t,x,h=>by cases h
 | (u,y) :: l,t,x,h=>by
  rw [tmL] at h
  by_cases e:u=t
  ·subst e
   rw [Tr.get_set_same (u+2) _ u y (Nat.lt_of_lt_of_le Nat.lt_two_pow_self (Nat.pow_le_pow_right (by decide) (by omega)))] at h
   cases h
   exact List.mem_cons_self
  ·rw [Tr.get_set_other _ _ _ _ _ e] at h
   exact List.mem_cons_of_mem _ (tmL_get h)
def headSt (tl:List (Nat × AV)) (ml:List (Nat × List A0)) (nx nr:Nat):St:={ tm:=tmL tl,mem:=ml,nx:=nx,nr:=nr,exs:=[],out:=[],it:=[] }
theorem lkup_mem {m:List (Nat × List A0)} {r:Nat} {l:List A0} (h:lookup r m=some l):(r,l) ∈ m:=by
 induction m with
 | nil=>cases h
 | cons e m ih =>
  obtain ⟨q,k⟩:=e
  rw [lookup] at h
  cases hq:(q == r) with
  | true =>
   rw [hq,cond_true] at h
   cases h
   rw [beq_iff_eq.1 hq]
   exact List.mem_cons_self
  | false =>
   rw [hq,cond_false] at h
   exact List.mem_cons_of_mem _ (ih h)
theorem map_mem {α γ:Type} {f g:α→γ}:∀ {l:List α},l.map f=l.map g→∀ x ∈ l,f x=g x
 | y :: l,h,x,hx=>by
  rw [List.map_cons,List.map_cons] at h
  injection h with h1 h2
  rcases List.mem_cons.1 hx with rfl | hx
  ·exact h1
  ·exact map_mem h2 x hx
structure RenOk (nold nr2 nr:Nat) (ρ:Nat→Nat):Prop where
 old:∀ r,r<nold→ρ r=r
 new:∀ r,nold≤r→r<nr2→nold≤ρ r∧ρ r<nr
 inj:∀ r q,nold≤r→nold≤q→r<nr2→q<nr2→r≠q→ρ r≠ρ q
 le:nold≤nr2
theorem Rel.renew {F F2:Fix} {s s2:Nums} {β:Places} {w0:World} {st:St} {a:Act} {w:World} (hr:Rel F s β w0 st a w) (hF:F2.nt=F.nt) (hn:F2.nold=F.nold) (hw:F2.wr=F.wr) (hsp:F2.sep=F.sep) (hnp:∀ r,F2.np r=none) (hout:st.out=[])
  {ρ ν:Nat→Nat} {tl:List (Nat × AV)} {ml:List (Nat × List A0)} {nx2 nr2:Nat} (hs:∀ i,i<nx2→s2 i=s (ν i))
  (htm:tl.map (fun e=>st.tm.get e.1)=tl.map fun e=>some (e.2.rn ρ ν)) (htb:tl.all (fun e=>e.2.bel nr2 nx2)=true)
  (hmm:ml.map (fun e=>lookup (ρ e.1) st.mem)=ml.map fun e=>some (e.2.map (A0.rn ρ ν))) (hmb:ml.all (fun e=>decide (e.1<nr2) && e.2.all (A0.bel nr2 nx2))=true)
  (hρ:RenOk F.nold nr2 st.nr ρ) (hdec:Dec F2 s2):Rel F2 s2 (fun r=>β (ρ r)) w0 (headSt tl ml nx2 nr2) a w:=by
 have hβ:∀ r,r<nr2→(fun r=>β (ρ r)) r=β (ρ r):=fun _ _=>rfl
 have row:∀ r l,lookup r ml=some l→r<nr2∧l.all (A0.bel nr2 nx2)=true∧lookup (ρ r) st.mem=some (l.map (A0.rn ρ ν)):=fun r l h=>by
  have hm:=lkup_mem h
  have h1:=List.all_eq_true.1 hmb _ hm
  simp only [Bool.and_eq_true,decide_eq_true_eq] at h1
  exact ⟨h1.1,h1.2,map_mem hmm _ hm⟩
 refine { size:=by rw [hF]; exact hr.size,defs:=hr.defs,tm:=fun t x hx=>?_,mem:=fun r l hl=>?_,frz:=fun r l hl hwr j hj=>?_,fresh:=fun r h1 h2=>?_,dist:=fun r q h1 h2 h3 h4 h5=>?_,old:=fun r h=>?_,sep:=fun r q h1 h2 h3=>?_,nold:=by rw [hn]; exact hρ.le,outs:=fun e he=>(by cases he),below:=?_,dec:=hdec,it:=fun r b p h=>(by cases h),np:=fun r i j h=>(by rw [hnp r] at h; cases h) }
 ·have hm:=tmL_get hx
  have h1:=map_mem htm _ hm
  exact rn_repV (n:=st.nr) hs hβ (List.all_eq_true.1 htb _ hm) (hr.tm t _ h1)
 ·obtain ⟨h1,h2,h3⟩:=row r l hl
  obtain ⟨_,hc⟩:=hr.mem _ _ h3
  refine ⟨h1,fun j x hx=>?_⟩
  obtain ⟨v,g1,g2⟩:=hc j (x.rn ρ ν) (by rw [List.getElem?_map,hx]; rfl)
  exact ⟨v,g1,rn_rep (n:=st.nr) hs hβ (List.all_eq_true.1 h2 x (List.mem_of_getElem? hx)) g2⟩
 ·obtain ⟨h1,h2,h3⟩:=row r l hl
  rw [hn,hw] at hwr
  refine hr.frz _ _ h3 ?_ j (by rw [List.length_map]; exact hj)
  by_cases hlt:r<F.nold
  ·rw [hρ.old r hlt]; exact hwr
  ·exact .inl (hρ.new r (by omega) h1).1
 ·rw [hn] at h1
  obtain ⟨g1,g2⟩:=hρ.new r h1 h2
  exact hr.fresh _ g1 g2
 ·rw [hn] at h1 h2
  obtain ⟨g1,g2⟩:=hρ.new r h1 h3
  obtain ⟨g3,g4⟩:=hρ.new q h2 h4
  exact hr.dist _ _ g1 g3 g2 g4 (hρ.inj r q h1 h2 h3 h4 h5)
 ·rw [hn] at h
  show (β (ρ r)).1<_
  rw [hρ.old r h]
  exact hr.old r h
 ·rw [hn] at h1 h2
  show (β (ρ r)).1≠(β (ρ q)).1
  rw [hρ.old r h1,hρ.old q h2]
  exact hr.sep r q h1 h2 (by rw [← hsp]; exact h3)
 ·have:=hr.below
  rw [hout] at this
  exact this
structure Pk where
 o:Out
 nx:Nat
 exs:List Ex
 tms:List (Option AV)
 mems:List (Option (List A0))
def peek (T:Tab) (F:Fix) (f:Nat) (c:Code) (st:St) (m:Nat) (ts rs:List Nat):Option Pk :=
 match run T F f c st with
 | some (o,st')=>bif st'.out.isEmpty && decide (m≤st'.nr) then some ⟨o,st'.nx,st'.exs,ts.map st'.tm.get,rs.map fun r=>lookup r st'.mem⟩ else none
 | none=>none
theorem peek_spec {T:Tab} {F:Fix} {f:Nat} {c:Code} {st:St} {m:Nat} {ts rs:List Nat} {p:Pk} (h:peek T F f c st m ts rs=some p) :
  ∃ st',run T F f c st=some (p.o,st')∧st'.out=[]∧st'.nx=p.nx∧st'.exs=p.exs∧m≤st'.nr∧ts.map st'.tm.get=p.tms∧(rs.map fun r=>lookup r st'.mem)=p.mems:=by
 unfold peek at h
 split at h
 ·rename_i o st' hr
  rw [cond_eq_ite] at h
  split at h
  ·rename_i he
   cases h
   simp only [Bool.and_eq_true,decide_eq_true_eq] at he
   exact ⟨st',hr,List.isEmpty_iff.1 he.1,rfl,rfl,he.2,rfl,rfl⟩
  ·cases h
 ·cases h
def fixH (nt nold:Nat) (d:List (Nat × Bool)):Fix:=fixD nt nold [] [] d
structure HeadOk (tl:List (Nat × AV)) (ml:List (Nat × List A0)) (nx nr:Nat):Prop where
 tb:tl.all (fun e=>e.2.bel nr nx)=true
 mb:ml.all (fun e=>decide (e.1<nr) && e.2.all (A0.bel nr nx))=true
 ts:tl.map (fun e=>(tmL tl).get e.1)=tl.map fun e=>some e.2
 ms:ml.map (fun e=>lookup e.1 ml)=ml.map fun e=>some e.2
theorem hop_wp {T:Tab} (hT:T.Ok Try.prog) {nt nold:Nat} {d:List (Nat × Bool)} {s:Nums} {β:Places} {w0:World} {tl:List (Nat × AV)} {ml:List (Nat × List A0)} {nx nr:Nat} {a:Act} {w:World}
  (hr:Rel (fixH nt nold []) s β w0 (headSt tl ml nx nr) a w) (hh:HeadOk tl ml nx nr) (hnr:nold≤nr) {f:Nat} {c:Code} {o:Out} {st':St} {nx':Nat} {exs:List Ex} (hrun:run T (fixH nt nold d) f c (headSt tl ml nx nr)=some (o,st')) (hnx:st'.nx=nx') (hexs:st'.exs=exs)
  (hsc:inScope nx' exs=true) (hle:exs.length≤nx') (hn0:nx' - exs.length=nx)
  (hdec:∀ s1:Nums,(∀ i,i<nx→s1 i=s i)→Holds s1 nx' exs→Dec (fixH nt nold d) s1) {Q:Exit→Act→World→Prop}
  (hn:∀ (s1:Nums) (β':Places) (a':Act) (w':World),(∀ i,i<nx→s1 i=s i)→Holds s1 nx' exs→Agree β β' nr→Rel (fixH nt nold d) s1 β' w0 st' a' w'→Q o.toExit a' w'):c.wp Try.prog Q a w:=by
 obtain ⟨s1,hH,hs1⟩:=exists_nums s hle hsc
 rw [hn0] at hs1
 have hr1:Rel (fixH nt nold d) s1 β w0 (headSt tl ml nx nr) a w:=by
  have:=hr.renew (F2:=fixH nt nold d) (s2:=s1) rfl rfl rfl rfl (fun _=>rfl) rfl (ρ:=id) (ν:=id) (tl:=tl) (ml:=ml) (nx2:=nx) (nr2:=nr) hs1
   (by show tl.map (fun e=>(tmL tl).get e.1)=_; rw [hh.ts]; simp only [rn_idV]) hh.tb (by show ml.map (fun e=>lookup e.1 ml)=_; rw [hh.ms]; simp only [rn_idL]) hh.mb
   ⟨fun _ _=>rfl,fun r h1 h2=>⟨h1,h2⟩,fun r q _ _ _ _ h=>h,hnr⟩ (hdec s1 hs1 hH)
  exact this
 exact run_wp hT hr1 hrun (by rw [hnx,hexs]; exact hH) fun β' a' w' hag hr'=>hn s1 β' a' w' hs1 hH hag hr'
theorem hop {T:Tab} (hT:T.Ok Try.prog) {nt nold:Nat} {d:List (Nat × Bool)} {s:Nums} {β:Places} {w0:World} {tl:List (Nat × AV)} {ml:List (Nat × List A0)} {nx nr:Nat} {a:Act} {w:World}
  (hr:Rel (fixH nt nold []) s β w0 (headSt tl ml nx nr) a w) (hh:HeadOk tl ml nx nr) (hnr:nold≤nr) {f:Nat} {c:Code} {o:Out} {nx' nr':Nat} {exs:List Ex} (ρ ν:Nat→Nat) {tl':List (Nat × AV)} {ml':List (Nat × List A0)} {nx2 nr2:Nat}
  (hp:peek T (fixH nt nold d) f c (headSt tl ml nx nr) nr' (tl'.map fun e=>e.1) (ml'.map fun e=>ρ e.1)=some ⟨o,nx',exs,tl'.map fun e=>some (e.2.rn ρ ν),ml'.map fun e=>some (e.2.map (A0.rn ρ ν))⟩)
  (hsc:inScope nx' exs=true) (hle:exs.length≤nx') (hn0:nx' - exs.length=nx)
  (hdec:∀ s1:Nums,(∀ i,i<nx→s1 i=s i)→Holds s1 nx' exs→Dec (fixH nt nold d) s1)
  (hh':HeadOk tl' ml' nx2 nr2) (hρ:RenOk nold nr2 nr' ρ) {Q:Exit→Act→World→Prop}
  (hn:∀ (s1:Nums) (β':Places) (a':Act) (w':World),(∀ i,i<nx→s1 i=s i)→Holds s1 nx' exs→(∀ r,r<nold→β' r=β r)→Rel (fixH nt nold []) (fun i=>s1 (ν i)) β' w0 (headSt tl' ml' nx2 nr2) a' w'→Q o.toExit a' w'):c.wp Try.prog Q a w:=by
 obtain ⟨st',hrun,hout,hnx,hexs,hnr',htm,hmm⟩:=peek_spec hp
 refine hop_wp hT hr hh hnr hrun hnx hexs hsc hle hn0 hdec fun s1 β' a' w' h1 h2 hag h3=>?_
 refine hn s1 (fun r=>β' (ρ r)) a' w' h1 h2 (fun r hr=>?_) ?_
 ·show β' (ρ r)=β r
  rw [hρ.old r hr]
  exact hag r (Nat.lt_of_lt_of_le hr hnr)
 ·refine h3.renew (F2:=fixH nt nold []) rfl rfl rfl rfl (fun _=>rfl) hout (fun i _=>rfl) ?_ hh'.tb ?_ hh'.mb ⟨hρ.old,fun r h1 h2=>⟨(hρ.new r h1 h2).1,Nat.lt_of_lt_of_le (hρ.new r h1 h2).2 hnr'⟩,hρ.inj,hρ.le⟩ (fun i b h=>by cases h)
  ·have:=htm
   rw [List.map_map] at this
   exact this
  ·have:=hmm
   rw [List.map_map] at this
   exact this
end P224
/- Pieces of code that change no memory, several in a row; rows of what came in. -/
namespace P224
open Go Go.RowKit Go.Proofs
set_option maxRecDepth 100000
set_option linter.unusedVariables false
def runL (T:Tab) (F:Fix) (f:Nat):List Code→St→Option (Out × St)
 | [],st=>some (.normal,st)
 | [c],st=>run T F f c st
 | c :: d :: l,st=>match run T F f c st with
  | some (.normal,st')=>runL T F f (d :: l) st'
  | _=>none
def Reach (P:Program):List Code→(Exit→Act→World→Prop)→Act→World→Prop
 | [],K,a,w=>K .normal a w
 | [c],K,a,w=>c.wp P K a w
 | c :: d :: l,K,a,w=>∀ Q:Exit→Act→World→Prop,(∀ a' w',Reach P (d :: l) K a' w'→Q .normal a' w')→c.wp P Q a w
theorem runL_grows {P:Program} {T:Tab} (hT:T.Ok P) {F:Fix} {f:Nat}:∀ {l:List Code} {st st':St} {o:Out},runL T F f l st=some (o,st')→Grows st st'
 | [],st,st',o,h=>by cases h; exact .refl _
 | [c],st,st',o,h=>run_grows hT h
 | c :: d :: l,st,st',o,h=>by
  rw [runL] at h
  split at h
  ·rename_i st1 h1
   exact (run_grows hT h1).trans (runL_grows hT h)
  ·cases h
theorem runL_reach {P:Program} {T:Tab} (hT:T.Ok P) {F:Fix} {s:Nums} {w0:World} {f:Nat}:∀ {l:List Code} {st st':St} {o:Out} {β:Places} {a:Act} {w:World} {K:Exit→Act→World→Prop},Rel F s β w0 st a w→runL T F f l st=some (o,st')→Holds s st'.nx st'.exs →
  (∀ β' a' w',Agree β β' st.nr→Rel F s β' w0 st' a' w'→K o.toExit a' w')→Reach P l K a w
 | [],st,st',o,β,a,w,K,hr,h,hH,hn=>by cases h; exact hn β a w (Agree.refl _ _) hr
 | [c],st,st',o,β,a,w,K,hr,h,hH,hn=>run_wp hT hr h hH hn
 | c :: d :: l,st,st',o,β,a,w,K,hr,h,hH,hn=>by
  rw [runL] at h
  split at h
  ·rename_i st1 h1
   intro Q hQ
   have hg:=runL_grows hT h
   refine run_wp hT hr h1 (hg.le.holds hH) fun β1 a1 w1 hag hr1=>?_
   exact hQ a1 w1 (runL_reach hT hr1 h hH fun β' a' w' hag' hr'=>hn β' a' w' (hag.trans hag' (run_grows hT h1).nr) hr')
  ·cases h
structure Pm where
 o:Out
 nx:Nat
 exs:List Ex
 tms:List (Option AV)
 mem:List (Nat × List A0)
end P224
/- Stores over stores: the last ones count. -/
namespace P224
open Go Go.RowKit Go.Proofs
set_option maxRecDepth 100000
set_option linter.unusedVariables false
theorem setCell_twice (w:World) (b o:Nat) (u v:Value):(w.setCell ⟨b,o,none⟩ u).setCell ⟨b,o,none⟩ v=w.setCell ⟨b,o,none⟩ v:=by
 unfold World.setCell
 simp only
 congr 1
 apply Array.ext
 ·simp
 ·intro k h1 h2
  simp only [Array.getElem_modify]
  by_cases e1:b=k
  ·simp only [e1,if_true]
   have hk:k<w.heap.size:=by simpa using h2
   generalize w.heap[k]'hk=ob
   cases ob <;> simp
  ·simp only [e1,if_false]
theorem setCell_pass (b o:Nat) (v:Value):∀ (us:List Value) (o':Nat) (w:World),o<o'→(w.setCells b o' us).setCell ⟨b,o,none⟩ v=(w.setCell ⟨b,o,none⟩ v).setCells b o' us
 | [],_,_,_=>rfl
 | u :: us,o',w,h=>by
  show ((w.setCell ⟨b,o',none⟩ u).setCells b (o'+1) us).setCell ⟨b,o,none⟩ v=((w.setCell ⟨b,o,none⟩ v).setCell ⟨b,o',none⟩ u).setCells b (o'+1) us
  rw [setCell_pass b o v us (o'+1) _ (by omega),setCell_comm w b (by omega) u v]
theorem setCells_over (b:Nat):∀ (vs us:List Value) (o:Nat) (w:World),vs.length=us.length→(w.setCells b o us).setCells b o vs=w.setCells b o vs
 | [],[],_,_,_=>rfl
 | v :: vs,u :: us,o,w,h=>by
  show (((w.setCell ⟨b,o,none⟩ u).setCells b (o+1) us).setCell ⟨b,o,none⟩ v).setCells b (o+1) vs=(w.setCell ⟨b,o,none⟩ v).setCells b (o+1) vs
  rw [setCell_pass b o v us (o+1) _ (by omega),setCells_over b vs us (o+1) _ (by simpa using h),setCell_twice]
theorem words_len (v:Nat):(words v).length=4:=rfl
end P224
