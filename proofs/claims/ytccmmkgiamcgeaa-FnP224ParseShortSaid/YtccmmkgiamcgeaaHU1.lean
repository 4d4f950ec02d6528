/- From head to head where an element that came in is written: renumbered heads once more. -/
import Derived.Test.YtccmmkgiamcgeaaHZ0
import Derived.Test.YtccmmkgiamcgeaaHT1
set_option linter.all false
namespace P224
open Go Go.RowKit Go.Proofs
set_option maxRecDepth 100000
set_option linter.unusedVariables false
def headO (tl:List (Nat × AV)) (ml:List (Nat × List A0)) (nx nr i:Nat):St:={ tm:=tmL tl,mem:=ml,nx:=nx,nr:=nr,exs:=[],out:=outL i,it:=[] }
def outsL:List Nat→List (Nat × Nat × A0)
 | []=>[]
 | i :: l=>outL i ++ outsL l
theorem applyOut_app (s:Nums) (β:Places) (w:World):∀ l m:List (Nat × Nat × A0),applyOut s β w (l ++ m)=applyOut s β (applyOut s β w m) l
 | [],m=>rfl
 | (r,o,x) :: l,m=>by
  show (applyOut s β w (l ++ m)).setCell _ _=(applyOut s β (applyOut s β w m) l).setCell _ _
  rw [applyOut_app s β w l m]
theorem outsL_apply {s:Nums} {β:Places} {w:World} {x o:Nat} (hβ:β 0=(x,o)):∀ (i:Nat) (l:List Nat),applyOut s β w (outsL (i :: l))=w.setCells x o (words (s i))
 | i,[]=>by rw [outsL,applyOut_app,outL_apply hβ]; rfl
 | i,j :: l=>by rw [outsL,applyOut_app,outsL_apply hβ j l,outL_apply hβ,setCells_over _ _ _ _ _ (by rw [words_len,words_len])]
theorem Rel.renewO {F F2:Fix} {s s2:Nums} {β:Places} {w0:World} {st:St} {a:Act} {w:World} (hr:Rel F s β w0 st a w) (hF:F2.nt=F.nt) (hn:F2.nold=F.nold) (hw:F2.wr=F.wr) (hsp:F2.sep=F.sep) (hnp:∀ r,F2.np r=none) (h0:0<F.nold)
  {ρ ν:Nat→Nat} {tl:List (Nat × AV)} {ml:List (Nat × List A0)} {nx2 nr2 i2 i1:Nat} {os:List Nat} (hout:st.out=outsL (i1 :: os)) (hi:s2 i2=s i1) (hs:∀ i,i<nx2→s2 i=s (ν i))
  (htm:tl.map (fun e=>st.tm.get e.1)=tl.map fun e=>some (e.2.rn ρ ν)) (htb:tl.all (fun e=>e.2.bel nr2 nx2)=true)
  (hmm:ml.map (fun e=>lookup (ρ e.1) st.mem)=ml.map fun e=>some (e.2.map (A0.rn ρ ν))) (hmb:ml.all (fun e=>decide (e.1<nr2) && e.2.all (A0.bel nr2 nx2))=true)
  (hρ:RenOk F.nold nr2 st.nr ρ) (hdec:Dec F2 s2):Rel F2 s2 (fun r=>β (ρ r)) w0 (headO tl ml nx2 nr2 i2) a w:=by
 have hβ:∀ r,r<nr2→(fun r=>β (ρ r)) r=β (ρ r):=fun _ _=>rfl
 have row:∀ r l,lookup r ml=some l→r<nr2∧l.all (A0.bel nr2 nx2)=true∧lookup (ρ r) st.mem=some (l.map (A0.rn ρ ν)):=fun r l h=>by
  have hm:=lkup_mem h
  have h1:=List.all_eq_true.1 hmb _ hm
  simp only [Bool.and_eq_true,decide_eq_true_eq] at h1
  exact ⟨h1.1,h1.2,map_mem hmm _ hm⟩
 have hlt:s i1<pq:=by
  obtain ⟨_,v,hv⟩:=hr.outs (0,3,.limb i1 3) (by rw [hout]; exact List.mem_cons_self)
  exact hv.2
 refine { size:=by rw [hF]; exact hr.size,defs:=hr.defs,tm:=fun t x hx=>?_,mem:=fun r l hl=>?_,frz:=fun r l hl hwr j hj=>?_,fresh:=fun r h1 h2=>?_,dist:=fun r q h1 h2 h3 h4 h5=>?_,old:=fun r h=>?_,sep:=fun r q h1 h2 h3=>?_,nold:=by rw [hn]; exact hρ.le,outs:=fun e he=>?_,below:=?_,dec:=hdec,it:=fun r b p h=>(by cases h),np:=fun r i j h=>(by rw [hnp r] at h; cases h) }
 ·have hm:=tmL_get hx
  have h1:=map_mem htm _ hm
  exact rn_repV (n:=st.nr) hs hβ (List.all_eq_true.1 htb _ hm) (hr.tm t _ h1)
 ·obtain ⟨h1,h2,h3⟩:=row r l hl
  obtain ⟨_,hc⟩:=hr.mem _ _ h3
  refine ⟨h1,fun j x hx=>?_⟩
  obtain ⟨v,g1,g2⟩:=hc j (x.rn ρ ν) (by rw [List.getElem?_map,hx]; rfl)
  exact ⟨v,g1,rn_rep (n:=st.nr) hs hβ (List.all_eq_true.1 h2 x (List.mem_of_getElem? hx)) g2⟩
 ·obtain ⟨h1,h2,h3⟩:=row r l hl
  rw [hn,hw] at hwr
  refine hr.frz _ _ h3 ?_ j (by rw [List.length_map]; exact hj)
  by_cases hlt:r<F.nold
  ·rw [hρ.old r hlt]; exact hwr
  ·exact .inl (hρ.new r (by omega) h1).1
 ·rw [hn] at h1
  obtain ⟨g1,g2⟩:=hρ.new r h1 h2
  exact hr.fresh _ g1 g2
 ·rw [hn] at h1 h2
  obtain ⟨g1,g2⟩:=hρ.new r h1 h3
  obtain ⟨g3,g4⟩:=hρ.new q h2 h4
  exact hr.dist _ _ g1 g3 g2 g4 (hρ.inj r q h1 h2 h3 h4 h5)
 ·rw [hn] at h
  show (β (ρ r)).1<_
  rw [hρ.old r h]
  exact hr.old r h
 ·rw [hn] at h1 h2
  show (β (ρ r)).1≠(β (ρ q)).1
  rw [hρ.old r h1,hρ.old q h2]
  exact hr.sep r q h1 h2 (by rw [← hsp]; exact h3)
 ·have key:∀ k,(0:Nat)<F2.nold∧∃ v,(A0.limb i2 k).rep s2 (fun r=>β (ρ r)) nr2 v:=fun k=>⟨by rw [hn]; exact h0,_,rfl,by rw [hi]; exact hlt⟩
  have he':e ∈ [(0,3,A0.limb i2 3),(0,2,.limb i2 2),(0,1,.limb i2 1),(0,0,.limb i2 0)]:=he
  simp only [List.mem_cons,List.not_mem_nil,or_false] at he'
  rcases he' with rfl | rfl | rfl | rfl
  ·exact key 3
  ·exact key 2
  ·exact key 1
  ·exact key 0
 ·have:=hr.below
  rw [hout,outsL_apply (s:=s) (β:=β) (w:=w0) (x:=(β 0).1) (o:=(β 0).2) rfl] at this
  show Below w0.heap.size (applyOut s2 (fun r=>β (ρ r)) w0 (outL i2)) w
  rw [outL_apply (s:=s2) (x:=(β 0).1) (o:=(β 0).2) (by show β (ρ 0)=_; rw [hρ.old 0 h0]),hi]
  exact this
def peekO (T:Tab) (F:Fix) (f:Nat) (l:List Code) (st:St) (m:Nat) (ts rs:List Nat):Option (Pk × List (Nat × Nat × A0)) :=
 match runL T F f l st with
 | some (o,st')=>bif decide (m≤st'.nr) then some (⟨o,st'.nx,st'.exs,ts.map st'.tm.get,rs.map fun r=>lookup r st'.mem⟩,st'.out) else none
 | none=>none
theorem peekO_spec {T:Tab} {F:Fix} {f:Nat} {l:List Code} {st:St} {m:Nat} {ts rs:List Nat} {p:Pk} {ou:List (Nat × Nat × A0)} (h:peekO T F f l st m ts rs=some (p,ou)) :
  ∃ st',runL T F f l st=some (p.o,st')∧st'.out=ou∧st'.nx=p.nx∧st'.exs=p.exs∧m≤st'.nr∧ts.map st'.tm.get=p.tms∧(rs.map fun r=>lookup r st'.mem)=p.mems:=by
 unfold peekO at h
 split at h
 ·rename_i o st' hr
  rw [cond_eq_ite] at h
  split at h
  ·rename_i he
   cases h
   exact ⟨st',hr,rfl,rfl,rfl,of_decide_eq_true he,rfl,rfl⟩
  ·cases h
 ·cases h
def fixO (nt nold:Nat) (d:List (Nat × Bool)):Fix:=fixD nt nold [0] [(0,1)] d
theorem to_headO {T:Tab} (hT:T.Ok Try.prog) {nt nold:Nat} (h0:0<nold) {d:List (Nat × Bool)} {s1:Nums} {β:Places} {w0:World} {st:St} {a:Act} {w:World} (hr:Rel (fixO nt nold d) s1 β w0 st a w)
  {f:Nat} {l:List Code} {o:Out} {nx' nr':Nat} {exs:List Ex} (ρ ν:Nat→Nat) {tl':List (Nat × AV)} {ml':List (Nat × List A0)} {nx2 nr2 i2:Nat} {os:List Nat} (hnr:nold≤st.nr)
  (hp:peekO T (fixO nt nold d) f l st nr' (tl'.map fun e=>e.1) (ml'.map fun e=>ρ e.1)=some (⟨o,nx',exs,tl'.map fun e=>some (e.2.rn ρ ν),ml'.map fun e=>some (e.2.map (A0.rn ρ ν))⟩,outsL (ν i2 :: os)))
  (hH:Holds s1 nx' exs) (hh':HeadOk tl' ml' nx2 nr2) (hi2:i2<nx2) (hρ:RenOk nold nr2 nr' ρ) {K:Exit→Act→World→Prop}
  (hn:∀ (β':Places) (a':Act) (w':World),(∀ r,r<nold→β' r=β r)→Rel (fixO nt nold []) (fun i=>s1 (ν i)) β' w0 (headO tl' ml' nx2 nr2 i2) a' w'→K o.toExit a' w'):Reach Try.prog l K a w:=by
 obtain ⟨st',hrun,hout,hnx,hexs,hnr',htm,hmm⟩:=peekO_spec hp
 refine runL_reach hT hr hrun (by rw [hnx,hexs]; exact hH) fun β' a' w' hag h3=>?_
 refine hn (fun r=>β' (ρ r)) a' w' (fun r hr=>?_) ?_
 ·show β' (ρ r)=β r
  rw [hρ.old r hr]
  exact hag r (Nat.lt_of_lt_of_le hr hnr)
 ·refine h3.renewO (F2:=fixO nt nold []) rfl rfl rfl rfl (fun _=>rfl) h0 hout rfl (fun i _=>rfl) ?_ hh'.tb ?_ hh'.mb ⟨hρ.old,fun r h1 h2=>⟨(hρ.new r h1 h2).1,Nat.lt_of_lt_of_le (hρ.new r h1 h2).2 hnr'⟩,hρ.inj,hρ.le⟩ (fun i b h=>by cases h)
  ·have:=htm
   rw [List.map_map] at this
   exact this
  ·have:=hmm
   rw [List.map_map] at this
   exact this
theorem Rel.numsO {nt nold:Nat} (h0:0<nold) {d:List (Nat × Bool)} {s s1:Nums} {β:Places} {w0:World} {tl:List (Nat × AV)} {ml:List (Nat × List A0)} {nx nr i:Nat} {a:Act} {w:World}
  (hr:Rel (fixO nt nold []) s β w0 (headO tl ml nx nr i) a w) (hh:HeadOk tl ml nx nr) (hi:i<nx) (hnr:nold≤nr) (hs1:∀ i,i<nx→s1 i=s i) (hdec:Dec (fixO nt nold d) s1):Rel (fixO nt nold d) s1 β w0 (headO tl ml nx nr i) a w:=by
 have:=hr.renewO (F2:=fixO nt nold d) (s2:=s1) rfl rfl rfl rfl (fun _=>rfl) h0 (ρ:=id) (ν:=id) (tl:=tl) (ml:=ml) (nx2:=nx) (nr2:=nr) (i2:=i) (i1:=i) (os:=[]) (by show outL i=outL i ++ []; rw [List.append_nil]) (hs1 i hi) hs1
  (by show tl.map (fun e=>(tmL tl).get e.1)=_; rw [hh.ts]; simp only [rn_idV]) hh.tb (by show ml.map (fun e=>lookup e.1 ml)=_; rw [hh.ms]; simp only [rn_idL]) hh.mb
  ⟨fun _ _=>rfl,fun r h1 h2=>⟨h1,h2⟩,fun r q _ _ _ _ h=>h,hnr⟩ hdec
 exact this
theorem hopO {T:Tab} (hT:T.Ok Try.prog) {nt nold:Nat} (h0:0<nold) {d:List (Nat × Bool)} {s:Nums} {β:Places} {w0:World} {tl:List (Nat × AV)} {ml:List (Nat × List A0)} {nx nr i:Nat} {a:Act} {w:World}
  (hr:Rel (fixO nt nold []) s β w0 (headO tl ml nx nr i) a w) (hh:HeadOk tl ml nx nr) (hi:i<nx) (hnr:nold≤nr) {f:Nat} {l:List Code} {o:Out} {nx' nr':Nat} {exs:List Ex} (ρ ν:Nat→Nat) {tl':List (Nat × AV)} {ml':List (Nat × List A0)} {nx2 nr2 i2:Nat} {os:List Nat}
  (hp:peekO T (fixO nt nold d) f l (headO tl ml nx nr i) nr' (tl'.map fun e=>e.1) (ml'.map fun e=>ρ e.1)=some (⟨o,nx',exs,tl'.map fun e=>some (e.2.rn ρ ν),ml'.map fun e=>some (e.2.map (A0.rn ρ ν))⟩,outsL (ν i2 :: os)))
  (hsc:inScope nx' exs=true) (hle:exs.length≤nx') (hn0:nx' - exs.length=nx)
  (hdec:∀ s1:Nums,(∀ i,i<nx→s1 i=s i)→Holds s1 nx' exs→Dec (fixO nt nold d) s1)
  (hh':HeadOk tl' ml' nx2 nr2) (hi2:i2<nx2) (hρ:RenOk nold nr2 nr' ρ) {K:Exit→Act→World→Prop}
  (hn:∀ (s1:Nums) (β':Places) (a':Act) (w':World),(∀ i,i<nx→s1 i=s i)→Holds s1 nx' exs→(∀ r,r<nold→β' r=β r)→Rel (fixO nt nold []) (fun i=>s1 (ν i)) β' w0 (headO tl' ml' nx2 nr2 i2) a' w'→K o.toExit a' w'):Reach Try.prog l K a w:=by
 obtain ⟨s1,hH,hs1⟩:=exists_nums s hle hsc
 rw [hn0] at hs1
 exact to_headO hT h0 (hr.numsO h0 hh hi hnr hs1 (hdec s1 hs1 hH)) ρ ν hnr hp hH hh' hi2 hρ fun β' a' w'=>hn s1 β' a' w' hs1 hH
def seqs:List Code→Code→Code
 | [],r=>r
 | c :: l,r=>.seq c (seqs l r)
theorem seqs_wp {P:Program} {r:Code} {Q:Exit→Act→World→Prop}:∀ {l:List Code} {a:Act} {w:World},l≠[]→Reach P l (Exit.then (r.wp P Q) Q) a w→(seqs l r).wp P Q a w
 | [],_,_,h,_=>absurd rfl h
 | [c],a,w,_,h=>wp_seq h
 | c :: d :: l,a,w,_,h=>wp_seq (h _ fun a' w' h'=>seqs_wp (by simp) h')
def spL:Nat→Code→List Code
 | 0,_=>[]
 | n+1,c=>match c with
  | .seq a b=>a :: spL n b
  | _=>[]
def spR:Nat→Code→Code
 | 0,c=>c
 | n+1,c=>match c with
  | .seq _ b=>spR n b
  | c=>c
end P224
/- The candidate of a square root: its code in pieces, the loop's head, the numbers of a round. -/
namespace P224
open Go Go.RowKit Go.Proofs
set_option maxRecDepth 100000
set_option linter.unusedVariables false
noncomputable def c117:Code:=Try.f117.body.getD .skip
noncomputable def l117:List Code:=spL 33 c117
noncomputable def kS:Code:=match spR 33 c117 with
 | .block _ (.loop c)=>c
 | c=>c
theorem shape117:c117=seqs l117 (.block 16 (.loop kS)):=by kernel_rfl
def rowG:List A0:=(List.range 96).flatMap limbs
def memS:List (Nat × List A0):=[(0,limbs 96),(2,rowG),(3,limbs 99),(4,limbs 97),(5,limbs 98)]
def tmS (i:Nat):List (Nat × AV):=[(0,.one (.ptr 0 0)),(4,.one (.ptr 2 0)),(6,.one (.ptr 3 0)),(15,.one (.ptr 4 0)),(16,.one (.ptr 5 0)),(17,.one (.lit (.int .i64 i)))]
noncomputable def tabU:Tab:=tabX true pointPrims xi1
theorem tabU_ok:tabU.Ok Try.prog:=tabX_ok pointPrims_ok xi1_ok
def sqL (a:Nat):Nat→List Ex→List Ex
 | 0,l=>l
 | m+1,l=>.fmul (.v (a+m)) (.v (a+m)) :: sqL a m l
def sqE:Nat→List Ex
 | 0=>[.fcst 0]
 | 1=>.fmul (.v 97) (.v 97) :: sqE 0
 | k+2=>.fmul (.v (101+k)) (.v (101+k)) :: sqE (k+1)
def wN (k:Nat):Nat:=if k=0 then 97 else 100+k
def rdE (k:Nat):List Ex:=.sel (.v (101+k)) (.v 96) (.v (104+k)) :: .fmul (.v 96) (.v (94 - k)) :: .sel (.v (101+k)) (.v 97) (.v (102+k)) :: .fmul (.v 97) (.v (95 - k)) :: .feq (.v (wN k)) (.v 98) :: sqE k
def νS (k i:Nat):Nat:=if i=96 then 105+k else if i=97 then 103+k else if i=99 then 104+k else i
def SqRun (k:Nat):Prop:=peekO tabU (fixO 216 2 []) 3000 [kS] (headO (tmS ((k:Nat)+1:Nat)) memS 100 6 96) 6 ((tmS k).map fun e=>e.1) (memS.map fun e=>id e.1)=some (⟨.normal,106+k,rdE k,(tmS k).map fun e=>some (e.2.rn id (νS k)),memS.map fun e=>some (e.2.map (A0.rn id (νS k)))⟩,outsL [105+k,96])
theorem sqExit:peekO tabU (fixO 216 2 []) 3000 [kS] (headO (tmS 0) memS 100 6 96) 6 [] []=some (⟨.exit 16,100,[],[],[]⟩,outsL [96]):=by kernel_rfl
def g0B:List Nat:=[106,15,236,103,133,152,167,146,12,85,178,212,11,45,111,251,190,163,216,206,243,251,54,50,220,105,27,116]
def exG:List Ex:=sqL 3 94 [.fmul (.v 1) (.v 1),.op 4 [.v 1,.c pq],.op 2 (g0B.map .c)]
def ex7:List Ex:=.fmul (.v 0) (.v 102) :: .fmul (.v 101) (.v 101) :: .fmul (.v 0) (.v 100) :: .fmul (.v 0) (.v 0) :: .fcst 0 :: .fcst 0 :: exG
def ex127:List Ex:=.fmul (.v 0) (.v 108) :: sqL 107 1 (.fmul (.v 103) (.v 106) :: sqL 103 3 ex7)
def ex12:List Ex:=.fmul (.v 107) (.v 114) :: sqL 110 4 (.fmul (.v 108) (.v 108) :: ex127)
def ex24:List Ex:=.fmul (.v 115) (.v 127) :: sqL 115 12 ex12
def ex31:List Ex:=.fmul (.v 109) (.v 135) :: sqL 128 7 ex24
def ex48:List Ex:=.fmul (.v 128) (.v 153) :: sqL 137 16 (.fmul (.v 135) (.v 135) :: ex31)
def ex96:List Ex:=.fmul (.v 154) (.v 202) :: sqL 154 48 ex48
def exS:List Ex:=.fsub (.v 241) (.v 243) :: .fcst 1 :: .fcst 0 :: .fcst 0 :: .fcst 0 :: .fmul (.v 235) (.v 0) :: .fmul (.v 237) (.v 0) :: .fmul (.v 235) (.v 235) :: .fcst 0 :: .fmul (.v 136) (.v 234) :: sqL 203 31 ex96
def ρA (r:Nat):Nat:=if r<3 then r else if r=3 then 4 else r+2
def νA (i:Nat):Nat:=if i=0 then 1 else if i<96 then i+2 else if i=96 then 239 else if i=97 then 238 else if i=98 then 244 else 234
def stS:St:=startSt [.one (.ptr 0 0),.one (.ptr 1 0)] [(0,any4),(1,limbs 0)] 1 2
end P224
