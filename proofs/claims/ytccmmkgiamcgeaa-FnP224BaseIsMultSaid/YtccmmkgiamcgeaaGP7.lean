/- Points by their bytes: what comes in, what comes out, as the executor sees it. -/
import Derived.Test.YtccmmkgiamcgeaaGP1
set_option linter.all false
namespace P224
open Go Go.RowKit Go.Proofs
set_option maxRecDepth 100000
set_option linter.unusedVariables false
inductive PtAt (w:World) (v:Value):Pt pp→Prop where
 | far (b o c:Nat) (hv:v=.slice (some ⟨b,o,none⟩) 1 c) (hc:1≤c) (hp:w.cell? ⟨b,o,none⟩=some (.int .u8 0)):PtAt w v .far
 | on (b o c x y:Nat) (hv:v=.slice (some ⟨b,o,none⟩) 57 c) (hc:57≤c) (hp:PtBytes w b o x y) (hx:x<pq) (hy:y<pq) (hon:onN x y=1):PtAt w v (ptN x y)
inductive NewAt (w:World) (v:Value) (w':World):Pt pp→Prop where
 | far (b:Nat) (hge:w.heap.size≤b) (hlt:b<w'.heap.size) (hv:v=.slice (some ⟨b,0,none⟩) 1 57) (hp:w'.cell? ⟨b,0,none⟩=some (.int .u8 0)) (hz:w'.frozen? ⟨b,0,none⟩=false) (hb:Below w.heap.size w w'):NewAt w v w' .far
 | on (b x y:Nat) (hge:w.heap.size≤b) (hlt:b<w'.heap.size) (hv:v=.slice (some ⟨b,0,none⟩) 57 57) (hp:PtBytes w' b 0 x y) (hx:x<pq) (hy:y<pq) (hz:∀ k,k<57→w'.frozen? ⟨b,k,none⟩=false) (hb:Below w.heap.size w w'):NewAt w v w' (ptN x y)
section
variable {s:Nums} {β:Places} {F:Fix} {w0:World} {st:St} {a:Act} {w:World}
theorem newAt_far (hr:Rel F s β w0 st a w) {R:Nat} {l:List A0} (hl:lookup R st.mem=some (.lit (.int .u8 0) :: l)) (hn:F.nold≤R) (hbe:Below w0.heap.size w0 w) {v:Value} (hv:v=.slice (some (at_ β R 0)) 1 57):NewAt w0 v w .far:=by
 obtain ⟨h1,hc⟩:=hr.mem R _ hl
 obtain ⟨f1,f2,f3⟩:=hr.fresh R hn h1
 obtain ⟨u,g1,g2⟩:=hc 0 _ rfl
 have g2':u=.int .u8 0:=g2
 have hz:=hr.frz R _ hl (.inl hn) 0 (by simp)
 rw [at_,f3] at g1 hz hv
 exact .far _ f1 f2 hv (by rw [g1,g2']) hz hbe
theorem newAt_on (hr:Rel F s β w0 st a w) {R i j x y:Nat} (hl:lookup R st.mem=some (ptRow i j)) (hn:F.nold≤R) (hbe:Below w0.heap.size w0 w) (hi:s i=x) (hj:s j=y) (hx:x<pq) (hy:y<pq) {v:Value} (hv:v=.slice (some (at_ β R 0)) 57 57):NewAt w0 v w (ptN x y):=by
 obtain ⟨h1,hc⟩:=hr.mem R _ hl
 obtain ⟨f1,f2,f3⟩:=hr.fresh R hn h1
 rw [at_,f3] at hv
 refine .on _ x y f1 f2 hv (fun k z hz=>?_) hx hy (fun k hk=>?_) hbe
 ·have hk:k<57:=by
   have:=(List.getElem?_eq_some_iff.1 hz).1
   rwa [pvals_len] at this
  obtain ⟨u,hu⟩:∃ u,(ptRow i j)[k]?=some u:=⟨_,List.getElem?_eq_getElem (by rw [ptRow_len]; exact hk)⟩
  obtain ⟨v1,g1,g2⟩:=hc k u hu
  obtain ⟨z',hz',hrep⟩:=ptRow_rep (s:=s) (i:=i) (j:=j) (by rw [hi]; exact hx) (by rw [hj]; exact hy) k u hu
  rw [hi,hj,hz] at hz'
  cases hz'
  have hdf:=ptRow_def (List.mem_of_getElem? hu)
  rw [at_,f3] at g1
  rw [g1,rep_conc hdf g2,← rep_conc hdf (hrep β st.nr)]
 ·have:=hr.frz R _ hl (.inl hn) k (by rw [ptRow_len]; exact hk)
  rw [at_,f3,Nat.zero_add] at this
  exact this
def argPt (st:St) (x:A0):Option (Option (Nat × Nat)) :=
 match x.asSl with
 | some (r,o,1)=>match cellsAt st.mem r o 1 with
  | some [.lit (.int .u8 0)]=>some none
  | _=>none
 | some (r,o,57)=>match cellsAt st.mem r o 57 with
  | some (t :: l)=>match l.head?,l.getLast? with
   | some (.byt i _),some (.byt j _)=>bif sameAll (t :: l) (ptRow i j) then some (some (i,j)) else none
   | _,_=>none
  | _=>none
 | _=>none
theorem argPt_far (hr:Rel F s β w0 st a w) {x:A0} (h:argPt st x=some none) {v:Value} (hv:x.rep s β st.nr v):PtAt w v .far:=by
 unfold argPt at h
 split at h
 ·rename_i r o hx
  split at h
  ·rename_i hl
   obtain ⟨⟨c,hva,hca⟩,_⟩:=asSl_rep hx hv
   obtain ⟨k,hk,hlen,_,hj⟩:=cellsAt_ok (nr:=0) hl
   obtain ⟨_,hcl⟩:=hr.mem r k hk
   obtain ⟨u,g1,g2⟩:=hcl (o+0) (.lit (.int .u8 0)) (by rw [← hj 0 (by decide)]; rfl)
   have g2':u=.int .u8 0:=g2
   exact .far (β r).1 ((β r).2+o) c hva hca (by rw [g2'] at g1; exact g1)
  ·cases h
 ·split at h
  ·split at h
   ·obtain ⟨_,h⟩:=bif_some h
    cases h
   ·cases h
  ·cases h
 ·cases h
theorem argPt_on (hr:Rel F s β w0 st a w) {x:A0} {i j:Nat} (h:argPt st x=some (some (i,j))) {v:Value} (hv:x.rep s β st.nr v):s i<pq∧s j<pq∧(onN (s i) (s j)=1→PtAt w v (ptN (s i) (s j))):=by
 unfold argPt at h
 split at h
 ·split at h <;> cases h
 ·rename_i r o hx
  split at h
  ·rename_i t l hl
   split at h
   ·rename_i i' _ j' _ _ _
    obtain ⟨hs,h⟩:=bif_some h
    cases h
    obtain ⟨⟨c,hva,hca⟩,_⟩:=asSl_rep hx hv
    rw [sameAll_eq hs] at hl
    obtain ⟨k,hk,hlen,_,hj⟩:=cellsAt_ok (nr:=0) hl
    obtain ⟨_,hcl⟩:=hr.mem r k hk
    have get:∀ m,m<57→∀ z,(ptRow i j)[m]?=some z→∃ v,w.cell? ⟨(β r).1,(β r).2+o+m,none⟩=some v∧z.rep s β st.nr v:=fun m hm z hz=>by
     obtain ⟨v,h1,h2⟩:=hcl (o+m) z (by rw [← hj m hm]; exact hz)
     rw [at_,← Nat.add_assoc] at h1
     exact ⟨v,h1,h2⟩
    have li:s i<pq:=by
     obtain ⟨v,_,h2⟩:=get 1 (by decide) (.byt i 27) rfl
     exact h2.2
    have lj:s j<pq:=by
     obtain ⟨v,_,h2⟩:=get 29 (by decide) (.byt j 27) rfl
     exact h2.2
    refine ⟨li,lj,fun hon=>.on (β r).1 ((β r).2+o) c _ _ hva hca (fun m z hz=>?_) li lj hon⟩
    have hm:m<57:=by
     have:=(List.getElem?_eq_some_iff.1 hz).1
     rwa [pvals_len] at this
    obtain ⟨y,hy⟩:∃ y,(ptRow i j)[m]?=some y:=⟨_,List.getElem?_eq_getElem (by rw [ptRow_len]; exact hm)⟩
    obtain ⟨v,h1,h2⟩:=get m hm y hy
    obtain ⟨z',hz',hrep⟩:=ptRow_rep li lj m y hy
    rw [hz] at hz'
    cases hz'
    have hdf:=ptRow_def (List.mem_of_getElem? hy)
    rw [h1,rep_conc hdf h2,← rep_conc hdf (hrep β st.nr)]
   ·cases h
  ·cases h
 ·cases h
inductive PR where
 | far
 | pt (i j:Nat)
 | new (cf cx cy:Ex)
def PR.is (s:Nums):PR→Pt pp→Prop
 | .far,p=>p=.far
 | .pt i j,p=>p=ptN (s i) (s j)∧s i<pq∧s j<pq
 | .new cf cx cy,p=>cf.val s=farOf p∧cx.val s=xOf p∧cy.val s=yOf p
def outP (F:Fix) (st:St):PR→Option (A0 × St)
 | .far=>some (.slc st.nr 0 1 57,{ st with mem:=(st.nr,[.lit (.int .u8 0)]) :: st.mem,nr:=st.nr+1 })
 | .pt i j=>some (.slc st.nr 0 57 57,{ st with mem:=(st.nr,ptRow i j) :: st.mem,nr:=st.nr+1 })
 | .new cf cx cy=>match F.dec st.nx with
  | some true=>some (.slc st.nr 0 1 57,{ st with mem:=(st.nr,[.lit (.int .u8 0)]) :: st.mem,nr:=st.nr+1,nx:=st.nx+1,exs:=cf :: st.exs })
  | some false=>some (.slc st.nr 0 57 57,{ st with mem:=(st.nr,ptRow (st.nx+1) (st.nx+2)) :: st.mem,nr:=st.nr+1,nx:=st.nx+3,exs:=cy :: cx :: cf :: st.exs })
  | none=>none
theorem outP_grows {r:PR} {x:A0} {st':St} (h:outP F st r=some (x,st')):Grows st st':=by
 cases r with
 | far=>cases h; exact ⟨⟨[],rfl,rfl⟩,Nat.le_succ _⟩
 | pt i j=>cases h; exact ⟨⟨[],rfl,rfl⟩,Nat.le_succ _⟩
 | new cf cx cy =>
  simp only [outP] at h
  split at h
  ·cases h; exact ⟨⟨[_],rfl,rfl⟩,Nat.le_succ _⟩
  ·cases h; exact ⟨⟨[_,_,_],rfl,rfl⟩,Nat.le_succ _⟩
  ·cases h
end
end P224
/- Points come out as bytes: the executor is right; a call of two slices of points. -/
namespace P224
open Go Go.RowKit Go.Proofs
set_option maxRecDepth 100000
set_option linter.unusedVariables false
section
variable {s:Nums} {β:Places} {F:Fix} {w0:World} {st:St} {a:Act} {w:World}
theorem NewAt.below {v:Value} {w':World} {p:Pt pp} (h:NewAt w v w' p):Below w.heap.size w w':=by
 cases h <;> assumption
theorem NewAt.is_far {v:Value} {w':World} {p:Pt pp} (h:NewAt w v w' p) (he:p=.far):∃ b,w.heap.size≤b∧b<w'.heap.size∧v=.slice (some ⟨b,0,none⟩) 1 57∧w'.cell? ⟨b,0,none⟩=some (.int .u8 0)∧w'.frozen? ⟨b,0,none⟩=false:=by
 cases h with
 | far b hge hlt hv hp hz hb=>exact ⟨b,hge,hlt,hv,hp,hz⟩
 | on b x y hge hlt hv hp' hx hy hz hb=>cases he
theorem NewAt.is_on {v:Value} {w':World} {p:Pt pp} (h:NewAt w v w' p) {x y:Nat} (hp:p=ptN x y) (hx:x<pq) (hy:y<pq):∃ b,w.heap.size≤b∧b<w'.heap.size∧v=.slice (some ⟨b,0,none⟩) 57 57∧PtBytes w' b 0 x y∧(∀ k,k<57→w'.frozen? ⟨b,k,none⟩=false):=by
 cases h with
 | far b hge hlt hv hp' hz hb=>cases hp
 | on b x' y' hge hlt hv hp' hx' hy' hz hb =>
  obtain ⟨rfl,rfl⟩:=ptN_inj (lt_pp hx') (lt_pp hy') (lt_pp hx) (lt_pp hy) hp
  exact ⟨b,hge,hlt,hv,hp',hz⟩
theorem ptRow_cells {b i j x y:Nat} (hp:PtBytes w b 0 x y) (hi:s i=x) (hj:s j=y) (hx:x<pq) (hy:y<pq) (k:Nat) (z:A0) (hz:(ptRow i j)[k]?=some z):∃ v,w.cell? ⟨b,k,none⟩=some v∧∀ β' n,z.rep s β' n v:=by
 obtain ⟨u,hu,hrep⟩:=ptRow_rep (s:=s) (i:=i) (j:=j) (by rw [hi]; exact hx) (by rw [hj]; exact hy) k z hz
 rw [hi,hj] at hu
 have:=hp k u hu
 rw [Nat.zero_add] at this
 exact ⟨_,this,hrep⟩
theorem outP_ok (hr:Rel F s β w0 st a w) {r:PR} {x:A0} {st':St} (h:outP F st r=some (x,st')) {p:Pt pp} (hp:r.is s p) {v:Value} {w':World} (hn:NewAt w v w' p) (hH:Holds s st'.nx st'.exs) :
  ∃ β',Agree β β' st.nr∧x.rep s β' st'.nr v∧Rel F s β' w0 st' a w':=by
 have hk:=hr.kept hn.below
 have hsz:=hr.size_le
 have far:p=.far→∃ β',Agree β β' st.nr∧(A0.slc st.nr 0 1 57).rep s β' (st.nr+1) v∧Rel F s β' w0 { st with mem:=(st.nr,[.lit (.int .u8 0)]) :: st.mem,nr:=st.nr+1 } a w':=fun hp=>by
  obtain ⟨b,g1,g2,g3,g4,g5⟩:=hn.is_far hp
  obtain ⟨β',q1,q2,q3⟩:=hk.add (Nat.le_trans hsz g1) g2 (hr.far_from (B:=0) g1) (l:=[.lit (.int .u8 0)]) (fun j z hz=>by
   match j,hz with
   | 0,hz=>cases hz; exact ⟨_,g4,fun _ _ _=>rfl⟩
   | j+1,hz=>cases hz) (fun j hj=>by
   have:j=0:=by simp at hj; exact hj
   subst this; exact g5)
  exact ⟨β',q1,⟨by rw [at_,q2]; exact g3,Nat.lt_succ_self _⟩,q3⟩
 have on:∀ i j,p=ptN (s i) (s j)→s i<pq→s j<pq→∃ β',Agree β β' st.nr∧(A0.slc st.nr 0 57 57).rep s β' (st.nr+1) v∧Rel F s β' w0 { st with mem:=(st.nr,ptRow i j) :: st.mem,nr:=st.nr+1 } a w':=fun i j hp hi hj=>by
  obtain ⟨b,g1,g2,g3,g4,g5⟩:=hn.is_on hp hi hj
  obtain ⟨β',q1,q2,q3⟩:=hk.add (Nat.le_trans hsz g1) g2 (hr.far_from (B:=0) g1) (l:=ptRow i j) (fun k z hz=>by
   obtain ⟨v,u1,u2⟩:=ptRow_cells g4 rfl rfl hi hj k z hz
   exact ⟨v,u1,fun β' _ _=>u2 β' _⟩) (fun k hk=>g5 k (by rwa [ptRow_len] at hk))
  exact ⟨β',q1,⟨by rw [at_,q2]; exact g3,Nat.lt_succ_self _⟩,q3⟩
 cases r with
 | far=>cases h; exact far hp
 | pt i j=>cases h; exact on i j hp.1 hp.2.1 hp.2.2
 | new cf cx cy =>
  obtain ⟨hf,hx,hy⟩:=hp
  simp only [outP] at h
  split at h
  ·rename_i hd
   cases h
   have e:=hr.dec _ _ hd
   have e2:s st.nx=cf.val s:=hH.1
   rw [e,hf] at e2
   rcases farOf_cases p with ⟨h1,h2⟩|⟨h1,h2⟩
   ·obtain ⟨β',q1,q2,q3⟩:=far h2
    exact ⟨β',q1,q2,q3.nums _ _⟩
   ·rw [h1] at e2; cases e2
  ·rename_i hd
   cases h
   have e:=hr.dec _ _ hd
   have e2:s st.nx=cf.val s:=hH.2.2.1
   have ex:s (st.nx+1)=cx.val s:=hH.2.1
   have ey:s (st.nx+2)=cy.val s:=hH.1
   rw [e,hf] at e2
   rcases farOf_cases p with ⟨h1,h2⟩|⟨h1,h2⟩
   ·rw [h1] at e2; cases e2
   ·obtain ⟨β',q1,q2,q3⟩:=on (st.nx+1) (st.nx+2) (by rw [ex,ey,hx,hy]; exact h2) (by rw [ex,hx]; exact xOf_lt p) (by rw [ey,hy]; exact yOf_lt p)
    exact ⟨β',q1,q2,q3.nums _ _⟩
  ·cases h
end
def inP (F:Fix) (st:St) (x:A0):Option (Option (Nat × Nat) × St) :=
 match argPt st x with
 | some none=>some (none,st)
 | some (some (i,j))=>bif F.dec st.nx == some true then some (some (i,j),{ st with nx:=st.nx+1,exs:=.op 20 [.v i,.v j] :: st.exs }) else none
 | none=>none
def ptOf (s:Nums):Option (Nat × Nat)→Pt pp
 | none=>.far
 | some (i,j)=>ptN (s i) (s j)
section
variable {s:Nums} {β:Places} {F:Fix} {w0:World} {st:St} {a:Act} {w:World}
theorem inP_grows {x:A0} {q:Option (Nat × Nat)} {st':St} (h:inP F st x=some (q,st')):Grows st st':=by
 unfold inP at h
 split at h
 ·cases h; exact .refl _
 ·obtain ⟨_,h⟩:=bif_some h
  cases h; exact ⟨⟨[_],rfl,rfl⟩,Nat.le_refl _⟩
 ·cases h
theorem inP_same {x:A0} {q:Option (Nat × Nat)} {st':St} (h:inP F st x=some (q,st')):st'.mem=st.mem∧st'.nr=st.nr:=by
 unfold inP at h
 split at h
 ·cases h; exact ⟨rfl,rfl⟩
 ·obtain ⟨_,h⟩:=bif_some h
  cases h; exact ⟨rfl,rfl⟩
 ·cases h
theorem inP_ok (hr:Rel F s β w0 st a w) {x:A0} {q:Option (Nat × Nat)} {st':St} (h:inP F st x=some (q,st')) (hH:Holds s st'.nx st'.exs) {v:Value} (hv:x.rep s β st.nr v) :
  PtAt w v (ptOf s q)∧(∀ i j,q=some (i,j)→s i<pq∧s j<pq∧onN (s i) (s j)=1)∧Rel F s β w0 st' a w:=by
 unfold inP at h
 split at h
 ·rename_i ha
  cases h
  exact ⟨argPt_far hr ha hv,fun i j e=>(by cases e),hr⟩
 ·rename_i i j ha
  obtain ⟨hd,h⟩:=bif_some h
  cases h
  obtain ⟨l1,l2,hp⟩:=argPt_on hr ha hv
  have hd:F.dec st.nx=some true:=by simpa using hd
  have e:=hr.dec _ _ hd
  have e2:s st.nx=onN (s i) (s j):=hH.1
  rw [e] at e2
  have hon:onN (s i) (s j)=1:=e2.symm
  refine ⟨hp hon,fun i' j' e=>(by cases e; exact ⟨l1,l2,hon⟩),hr.nums _ _⟩
 ·cases h
end
end P224
/- What comes out as bytes of a point. PRINTED BY A PROGRAM OF MY OWN (gen/mk9.py). -/
namespace P224
open Go Go.RowKit Go.Proofs
set_option maxRecDepth 100000
set_option linter.unusedVariables false
def farRow:List A0:=List.replicate 57 (.lit (.int .u8 0))
theorem add_nums {t u:T3} {p q:Pt pp} (hp:OnC bb p) (hq:OnC bb q) (ht:Rep (toTri pp t) p) (hu:Rep (toTri pp u) q) {X Y Z:Nat}
  (hX:X=sxN pq bq t.1 t.2.1 t.2.2 u.1 u.2.1 u.2.2) (hY:Y=syN pq bq t.1 t.2.1 t.2.2 u.1 u.2.1 u.2.2) (hZ:Z=szN pq bq t.1 t.2.1 t.2.2 u.1 u.2.1 u.2.2) :
  (padd p q=.far→Z=0)∧(padd p q≠.far→Z≠0∧X*finvq Z % pq=xOf (padd p q)∧Y*finvq Z % pq=yOf (padd p q)):=by
 rcases add_aff hp hq ht hu hX hY hZ (by rw [hZ]; exact szN_lt _ _ _ _ _ _) with ⟨h1,h2,h3⟩|⟨h1,h2,h3,h4,h5⟩
 ·exact ⟨fun _=>h3,fun h=>absurd h2 h⟩
 ·exact ⟨fun h=>(by rw [h] at h1; cases h1),fun _=>⟨h3,h4,h5⟩⟩
theorem far_on:OnC bb (.far:Pt pp):=trivial
theorem out_far {s:Nums} {β:Places} {n R:Nat} {v:Value} (h:(resAV [.one (.slc R 0 1 57),.one (.lit (.bool true))]).rep s β n v):v=.tuple #[.slice (some (at_ β R 0)) 1 57,.bool true]:=by
 obtain ⟨vs,rfl,hl⟩:=h
 match vs,hl with
 | [a,b],⟨ha,hb,_⟩ =>
  have hb':b=.bool true:=hb
  rw [ha.1,hb']
theorem out_on {s:Nums} {β:Places} {n R:Nat} {v:Value} (h:(resAV [.one (.slc R 0 57 57),.one (.lit (.bool true))]).rep s β n v):v=.tuple #[.slice (some (at_ β R 0)) 57 57,.bool true]:=by
 obtain ⟨vs,rfl,hl⟩:=h
 match vs,hl with
 | [a,b],⟨ha,hb,_⟩ =>
  have hb':b=.bool true:=hb
  rw [ha.1,hb']
def OutPt (w:World) (p:Pt pp) (r:Value) (w':World):Prop:=∃ v,r=.tuple #[v,.bool true]∧NewAt w v w' p
theorem NewAt.of_eq {w w':World} {v:Value} {p q:Pt pp} (h:NewAt w v w' p) (e:q=p):NewAt w v w' q:=e ▸ h
theorem on_eq {p:Pt pp} (h:p≠.far):p=ptN (xOf p) (yOf p):=by
 rcases farOf_cases p with ⟨_,h2⟩|⟨_,h2⟩
 ·exact absurd h2 h
 ·exact h2
end P224
/- Points of the reference. PRINTED BY A PROGRAM OF MY OWN (gen/mk32b.py). -/
namespace P224
open Go Go.RowKit Go.Proofs
set_option maxRecDepth 100000
set_option linter.unusedVariables false
inductive SPt (w:World) (v:Value):Pt pp→Prop where
 | far (hv:v=.agg #[.bool true,.slice none 0 0,.slice none 0 0]):SPt w v .far
 | on (b1 b2 x y:Nat) (hv:v=.agg #[.bool false,.slice (some ⟨b1,0,none⟩) 7 7,.slice (some ⟨b2,0,none⟩) 7 7]) (h1:El w b1 0 x) (h2:El w b2 0 y) (hx:x<pq) (hy:y<pq) (hon:onN x y=1):SPt w v (ptN x y)
inductive NewS (w:World) (v:Value) (w':World):Pt pp→Prop where
 | far (hv:v=.agg #[.bool true,.slice none 0 0,.slice none 0 0]) (hb:Below w.heap.size w w'):NewS w v w' .far
 | on (bx b2 x y:Nat) (hv:v=.agg #[.bool false,.slice (some ⟨bx,0,none⟩) 7 7,.slice (some ⟨b2,0,none⟩) 7 7]) (hn:NewEls w x y bx b2 w') (hx:x<pq) (hy:y<pq):NewS w v w' (ptN x y)
theorem NewS.of_eq {w w':World} {v:Value} {p q:Pt pp} (h:NewS w v w' p) (e:q=p):NewS w v w' q:=e ▸ h
theorem m14 (u v:Nat):(((u:Int) - v) % (pq:Int)).toNat<pq:=by
 have hp:(0:Int)<(pq:Int):=by exact_mod_cast pq_pos
 have a1:=Int.emod_nonneg ((u:Int) - v) (Int.ne_of_gt hp)
 have a2:=Int.emod_lt_of_pos ((u:Int) - v) hp
 omega
theorem el_row {s:Nums} {β:Places} {n r b i x:Nat} {w:World} (hβ:β r=(b,0)) (h:El w b 0 x) (hi:s i=x) (hx:x<2 ^ 224):RowOk s β n r w 0 (l32s i):=by
 refine row_of fun k z hz=>?_
 obtain ⟨hk,e⟩:k<7∧z=.l32 i k:=by
  rw [l32s,List.getElem?_map] at hz
  cases hh:(List.range 7)[k]? with
  | none=>rw [hh] at hz; cases hz
  | some m =>
   rw [hh] at hz
   have:=List.getElem?_eq_some_iff.1 hh
   obtain ⟨h1,h2⟩:=this
   simp at h1 h2
   subst h2
   cases hz
   exact ⟨h1,rfl⟩
 subst e
 refine ⟨_,?_,rfl,by rw [hi]; exact hx⟩
 rw [at_,hβ,hi]
 show w.cell? ⟨b,0+(0+k),none⟩=_
 rw [Nat.zero_add]
 exact h.1 k hk
theorem sp_far {s:Nums} {β:Places} {n:Nat} {v:Value} (h:(resAV [.agg [.lit (.bool true),.lit (.slice none 0 0),.lit (.slice none 0 0)]]).rep s β n v):v=.agg #[.bool true,.slice none 0 0,.slice none 0 0]:=by
 obtain ⟨us,rfl,hul,huc⟩:=h
 match us,hul,huc with
 | [z0,z1,z2],_,huc =>
  have k0:z0=_:=huc 0 _ z0 rfl rfl
  have k1:z1=_:=huc 1 _ z1 rfl rfl
  have k2:z2=_:=huc 2 _ z2 rfl rfl
  rw [k0,k1,k2]
theorem sp_on {s:Nums} {β:Places} {n r q:Nat} {v:Value} (h:(resAV [.agg [.lit (.bool false),.slc r 0 7 7,.slc q 0 7 7]]).rep s β n v):v=.agg #[.bool false,.slice (some (at_ β r 0)) 7 7,.slice (some (at_ β q 0)) 7 7]:=by
 obtain ⟨us,rfl,hul,huc⟩:=h
 match us,hul,huc with
 | [z0,z1,z2],_,huc =>
  have k0:z0=_:=huc 0 _ z0 rfl rfl
  have k1:=(huc 1 _ z1 rfl rfl).1
  have k2:=(huc 2 _ z2 rfl rfl).1
  rw [k0,k1,k2]
theorem newS_on {s:Nums} {β:Places} {F:Fix} {w0:World} {st:St} {a:Act} {w:World} (hr:Rel F s β w0 st a w) {r q i j x y:Nat} (m1:lookup r st.mem=some (l32s i)) (m2:lookup q st.mem=some (l32s j)) (n1:F.nold≤r) (n2:F.nold≤q) (hne:r≠q)
  (hbe:Below w0.heap.size w0 w) (e2:s i=x) (e3:s j=y) (hx:x<pq) (hy:y<pq) {v:Value} (hv:v=.agg #[.bool false,.slice (some (at_ β r 0)) 7 7,.slice (some (at_ β q 0)) 7 7]):NewS w0 v w (ptN x y):=by
 obtain ⟨p1,_⟩:=hr.mem r _ m1
 obtain ⟨p2,_⟩:=hr.mem q _ m2
 obtain ⟨f1,f2,f3⟩:=hr.fresh r n1 p1
 obtain ⟨g1,g2,g3⟩:=hr.fresh q n2 p2
 have hd:=hr.dist r q n1 n2 p1 p2 hne
 obtain ⟨u1,u2,_⟩:=row_el hr m1 n1 e2 (b:=(β r).1) (by rw [← f3])
 obtain ⟨v1,v2,_⟩:=row_el hr m2 n2 e3 (b:=(β q).1) (by rw [← g3])
 rw [at_,at_,f3,g3] at hv
 exact .on _ _ x y hv ⟨f1,f2,g1,g2,hd,u1,v1,u2,v2,hbe⟩ hx hy
theorem lt224 {x:Nat} (h:x<pq):x<2 ^ 224:=Nat.lt_trans h pq_224
end P224
/- The package's Add of two points by their bytes. PRINTED BY A PROGRAM OF MY OWN (gen/mk9.py). -/
namespace P224
open Go Go.RowKit Go.Proofs
set_option maxRecDepth 100000
set_option linter.unusedVariables false
def ex35F:List Ex:=[
.feq (.v 15) (.c 1),
.feq (.v 14) (.c 0),
.op 17 [(.v 0),(.v 1),(.v 5),(.v 2),(.v 3),(.v 7)],
.op 16 [(.v 0),(.v 1),(.v 5),(.v 2),(.v 3),(.v 7)],
.op 15 [(.v 0),(.v 1),(.v 5),(.v 2),(.v 3),(.v 7)],
.fcst 0,
.fcst 1,
.fcst 0,
.fcst 0,
.fcst 1,
.op 20 [(.v 2),(.v 3)],
.fcst 1,
.op 20 [(.v 0),(.v 1)]]
def dec35F:List (Nat × Bool):=[(4,true),(6,true),(15,true),(16,true)]
def fix35F:Fix:=fixD 23 2 [] [] dec35F
def br35F:BriefR:=⟨.ret,17,ex35F,[],[.one (.slc 14 0 1 57),.one (.lit (.bool true))],[some (farRow)]⟩
theorem run35F:briefR (tabX true pointPrims xm4) Try.f35 [14] (runF (tabX true pointPrims xm4) fix35F 3000 Try.f35 (startSt [.one (.sl 0 0 57),.one (.sl 1 0 57)] [(0,ptRow 0 1),(1,ptRow 2 3)] 4 2))=some br35F:=by kernel_rfl
theorem law35F {s:Nums} {x0 y0:Nat} (g0:s 0=x0) (g1:s 1=y0) (lx0:x0<pq) (ly0:y0<pq) (hon0:onN x0 y0=1) {x1 y1:Nat} (g2:s 2=x1) (g3:s 3=y1) (lx1:x1<pq) (ly1:y1<pq) (hon1:onN x1 y1=1) (hfar:padd (ptN x0 y0) (ptN x1 y1)=.far) (h:Holds s 17 ex35F):s 4=1∧s 6=1∧s 15=1∧s 16=1:=by
 obtain ⟨h16,h15,h14,h13,h12,h11,h10,h9,h8,h7,h6,h5,h4,_⟩:=h
 have e16:s 16=if s 15=1 then 1 else 0:=h16
 have e15:s 15=if s 14=0 then 1 else 0:=h15
 have e14:s 14=szN pq bq (s 0) (s 1) (s 5) (s 2) (s 3) (s 7):=h14
 have e13:s 13=syN pq bq (s 0) (s 1) (s 5) (s 2) (s 3) (s 7):=h13
 have e12:s 12=sxN pq bq (s 0) (s 1) (s 5) (s 2) (s 3) (s 7):=h12
 have e11:s 11=0:=(show s 11=0 % pq from h11).trans (Nat.zero_mod _)
 have e10:s 10=1:=(show s 10=1 % pq from h10).trans mod_one_pq
 have e9:s 9=0:=(show s 9=0 % pq from h9).trans (Nat.zero_mod _)
 have e8:s 8=0:=(show s 8=0 % pq from h8).trans (Nat.zero_mod _)
 have e7:s 7=1:=(show s 7=1 % pq from h7).trans mod_one_pq
 have e6:s 6=onN (s 2) (s 3):=h6
 have e5:s 5=1:=(show s 5=1 % pq from h5).trans mod_one_pq
 have e4:s 4=onN (s 0) (s 1):=h4
 rw [g0,g1,e5,g2,g3,e7] at e12 e13 e14
 have key:=add_nums (onN_on hon0) (onN_on hon1) (rep_one fine x0 y0) (rep_one fine x1 y1) e12 e13 e14
 have k0:=key.1 hfar
 rw [if_pos k0] at e15
 rw [if_pos e15] at e16
 rw [g0,g1,hon0] at e4
 rw [g2,g3,hon1] at e6
 exact ⟨e4,e6,e15,e16⟩
def ex35N:List Ex:=[
.fmul (.v 13) (.v 18),
.fcst 0,
.fmul (.v 12) (.v 18),
.fcst 0,
.finv (.v 14),
.fcst 0,
.feq (.v 15) (.c 1),
.feq (.v 14) (.c 0),
.op 17 [(.v 0),(.v 1),(.v 5),(.v 2),(.v 3),(.v 7)],
.op 16 [(.v 0),(.v 1),(.v 5),(.v 2),(.v 3),(.v 7)],
.op 15 [(.v 0),(.v 1),(.v 5),(.v 2),(.v 3),(.v 7)],
.fcst 0,
.fcst 1,
.fcst 0,
.fcst 0,
.fcst 1,
.op 20 [(.v 2),(.v 3)],
.fcst 1,
.op 20 [(.v 0),(.v 1)]]
def dec35N:List (Nat × Bool):=[(4,true),(6,true),(15,false),(16,false)]
def fix35N:Fix:=fixD 23 2 [] [] dec35N
def br35N:BriefR:=⟨.ret,23,ex35N,[],[.one (.slc 14 0 57 57),.one (.lit (.bool true))],[some (ptRow 20 22)]⟩
theorem run35N:briefR (tabX true pointPrims xm4) Try.f35 [14] (runF (tabX true pointPrims xm4) fix35N 3000 Try.f35 (startSt [.one (.sl 0 0 57),.one (.sl 1 0 57)] [(0,ptRow 0 1),(1,ptRow 2 3)] 4 2))=some br35N:=by kernel_rfl
theorem law35N {s:Nums} {x0 y0:Nat} (g0:s 0=x0) (g1:s 1=y0) (lx0:x0<pq) (ly0:y0<pq) (hon0:onN x0 y0=1) {x1 y1:Nat} (g2:s 2=x1) (g3:s 3=y1) (lx1:x1<pq) (ly1:y1<pq) (hon1:onN x1 y1=1) (hfar:padd (ptN x0 y0) (ptN x1 y1)≠.far) (h:Holds s 23 ex35N):s 4=1∧s 6=1∧s 15=0∧s 16=0∧s 20=xOf (padd (ptN x0 y0) (ptN x1 y1))∧s 22=yOf (padd (ptN x0 y0) (ptN x1 y1)):=by
 obtain ⟨h22,h21,h20,h19,h18,h17,h16,h15,h14,h13,h12,h11,h10,h9,h8,h7,h6,h5,h4,_⟩:=h
 have e22:s 22=s 13*s 18 % pq:=h22
 have e21:s 21=0:=(show s 21=0 % pq from h21).trans (Nat.zero_mod _)
 have e20:s 20=s 12*s 18 % pq:=h20
 have e19:s 19=0:=(show s 19=0 % pq from h19).trans (Nat.zero_mod _)
 have e18:s 18=finvq (s 14):=h18
 have e17:s 17=0:=(show s 17=0 % pq from h17).trans (Nat.zero_mod _)
 have e16:s 16=if s 15=1 then 1 else 0:=h16
 have e15:s 15=if s 14=0 then 1 else 0:=h15
 have e14:s 14=szN pq bq (s 0) (s 1) (s 5) (s 2) (s 3) (s 7):=h14
 have e13:s 13=syN pq bq (s 0) (s 1) (s 5) (s 2) (s 3) (s 7):=h13
 have e12:s 12=sxN pq bq (s 0) (s 1) (s 5) (s 2) (s 3) (s 7):=h12
 have e11:s 11=0:=(show s 11=0 % pq from h11).trans (Nat.zero_mod _)
 have e10:s 10=1:=(show s 10=1 % pq from h10).trans mod_one_pq
 have e9:s 9=0:=(show s 9=0 % pq from h9).trans (Nat.zero_mod _)
 have e8:s 8=0:=(show s 8=0 % pq from h8).trans (Nat.zero_mod _)
 have e7:s 7=1:=(show s 7=1 % pq from h7).trans mod_one_pq
 have e6:s 6=onN (s 2) (s 3):=h6
 have e5:s 5=1:=(show s 5=1 % pq from h5).trans mod_one_pq
 have e4:s 4=onN (s 0) (s 1):=h4
 rw [g0,g1,e5,g2,g3,e7] at e12 e13 e14
 have key:=add_nums (onN_on hon0) (onN_on hon1) (rep_one fine x0 y0) (rep_one fine x1 y1) e12 e13 e14
 obtain ⟨k0,k1,k2⟩:=key.2 hfar
 rw [if_neg k0] at e15
 rw [if_neg (by rw [e15]; decide)] at e16
 rw [e18,k1] at e20
 rw [e18,k2] at e22
 rw [g0,g1,hon0] at e4
 rw [g2,g3,hon1] at e6
 exact ⟨e4,e6,e15,e16,e20,e22⟩
def ex35fp:List Ex:=[
.fmul (.v 17) (.v 22),
.fcst 0,
.fmul (.v 16) (.v 22),
.fcst 0,
.finv (.v 18),
.fcst 0,
.feq (.v 19) (.c 1),
.feq (.v 18) (.c 0),
.op 17 [(.v 6),(.v 8),(.v 9),(.v 0),(.v 1),(.v 11)],
.op 16 [(.v 6),(.v 8),(.v 9),(.v 0),(.v 1),(.v 11)],
.op 15 [(.v 6),(.v 8),(.v 9),(.v 0),(.v 1),(.v 11)],
.fcst 0,
.fcst 1,
.fcst 0,
.fcst 0,
.fcst 1,
.op 20 [(.v 0),(.v 1)],
.fcst 0,
.fcst 1,
.fcst 0,
.fcst 0,
.fcst 0,
.fcst 1,
.fcst 0,
.fcst 0]
def dec35fp:List (Nat × Bool):=[(10,true),(19,false),(20,false)]
def fix35fp:Fix:=fixD 23 2 [] [] dec35fp
def br35fp:BriefR:=⟨.ret,27,ex35fp,[],[.one (.slc 20 0 57 57),.one (.lit (.bool true))],[some (ptRow 24 26)]⟩
theorem run35fp:briefR (tabX true pointPrims xm4) Try.f35 [20] (runF (tabX true pointPrims xm4) fix35fp 3000 Try.f35 (startSt [.one (.sl 0 0 1),.one (.sl 1 0 57)] [(0,[.lit (.int .u8 0)]),(1,ptRow 0 1)] 2 2))=some br35fp:=by kernel_rfl
theorem law35fp {s:Nums} {x1 y1:Nat} (g0:s 0=x1) (g1:s 1=y1) (lx1:x1<pq) (ly1:y1<pq) (hon1:onN x1 y1=1) (hfar:padd .far (ptN x1 y1)≠.far) (h:Holds s 27 ex35fp):s 10=1∧s 19=0∧s 20=0∧s 24=xOf (padd .far (ptN x1 y1))∧s 26=yOf (padd .far (ptN x1 y1)):=by
 obtain ⟨h26,h25,h24,h23,h22,h21,h20,h19,h18,h17,h16,h15,h14,h13,h12,h11,h10,h9,h8,h7,h6,h5,h4,h3,h2,_⟩:=h
 have e26:s 26=s 17*s 22 % pq:=h26
 have e25:s 25=0:=(show s 25=0 % pq from h25).trans (Nat.zero_mod _)
 have e24:s 24=s 16*s 22 % pq:=h24
 have e23:s 23=0:=(show s 23=0 % pq from h23).trans (Nat.zero_mod _)
 have e22:s 22=finvq (s 18):=h22
 have e21:s 21=0:=(show s 21=0 % pq from h21).trans (Nat.zero_mod _)
 have e20:s 20=if s 19=1 then 1 else 0:=h20
 have e19:s 19=if s 18=0 then 1 else 0:=h19
 have e18:s 18=szN pq bq (s 6) (s 8) (s 9) (s 0) (s 1) (s 11):=h18
 have e17:s 17=syN pq bq (s 6) (s 8) (s 9) (s 0) (s 1) (s 11):=h17
 have e16:s 16=sxN pq bq (s 6) (s 8) (s 9) (s 0) (s 1) (s 11):=h16
 have e15:s 15=0:=(show s 15=0 % pq from h15).trans (Nat.zero_mod _)
 have e14:s 14=1:=(show s 14=1 % pq from h14).trans mod_one_pq
 have e13:s 13=0:=(show s 13=0 % pq from h13).trans (Nat.zero_mod _)
 have e12:s 12=0:=(show s 12=0 % pq from h12).trans (Nat.zero_mod _)
 have e11:s 11=1:=(show s 11=1 % pq from h11).trans mod_one_pq
 have e10:s 10=onN (s 0) (s 1):=h10
 have e9:s 9=0:=(show s 9=0 % pq from h9).trans (Nat.zero_mod _)
 have e8:s 8=1:=(show s 8=1 % pq from h8).trans mod_one_pq
 have e7:s 7=0:=(show s 7=0 % pq from h7).trans (Nat.zero_mod _)
 have e6:s 6=0:=(show s 6=0 % pq from h6).trans (Nat.zero_mod _)
 have e5:s 5=0:=(show s 5=0 % pq from h5).trans (Nat.zero_mod _)
 have e4:s 4=1:=(show s 4=1 % pq from h4).trans mod_one_pq
 have e3:s 3=0:=(show s 3=0 % pq from h3).trans (Nat.zero_mod _)
 have e2:s 2=0:=(show s 2=0 % pq from h2).trans (Nat.zero_mod _)
 rw [e6,e8,e9,g0,g1,e11] at e16 e17 e18
 have key:=add_nums far_on (onN_on hon1) (rep_zero fine) (rep_one fine x1 y1) e16 e17 e18
 obtain ⟨k0,k1,k2⟩:=key.2 hfar
 rw [if_neg k0] at e19
 rw [if_neg (by rw [e19]; decide)] at e20
 rw [e22,k1] at e24
 rw [e22,k2] at e26
 rw [g0,g1,hon1] at e10
 exact ⟨e10,e19,e20,e24,e26⟩
def ex35pf:List Ex:=[
.fmul (.v 17) (.v 22),
.fcst 0,
.fmul (.v 16) (.v 22),
.fcst 0,
.finv (.v 18),
.fcst 0,
.feq (.v 19) (.c 1),
.feq (.v 18) (.c 0),
.op 17 [(.v 0),(.v 1),(.v 3),(.v 8),(.v 10),(.v 11)],
.op 16 [(.v 0),(.v 1),(.v 3),(.v 8),(.v 10),(.v 11)],
.op 15 [(.v 0),(.v 1),(.v 3),(.v 8),(.v 10),(.v 11)],
.fcst 0,
.fcst 1,
.fcst 0,
.fcst 0,
.fcst 0,
.fcst 1,
.fcst 0,
.fcst 0,
.fcst 0,
.fcst 1,
.fcst 0,
.fcst 0,
.fcst 1,
.op 20 [(.v 0),(.v 1)]]
def dec35pf:List (Nat × Bool):=[(2,true),(19,false),(20,false)]
def fix35pf:Fix:=fixD 23 2 [] [] dec35pf
def br35pf:BriefR:=⟨.ret,27,ex35pf,[],[.one (.slc 20 0 57 57),.one (.lit (.bool true))],[some (ptRow 24 26)]⟩
theorem run35pf:briefR (tabX true pointPrims xm4) Try.f35 [20] (runF (tabX true pointPrims xm4) fix35pf 3000 Try.f35 (startSt [.one (.sl 0 0 57),.one (.sl 1 0 1)] [(0,ptRow 0 1),(1,[.lit (.int .u8 0)])] 2 2))=some br35pf:=by kernel_rfl
theorem law35pf {s:Nums} {x0 y0:Nat} (g0:s 0=x0) (g1:s 1=y0) (lx0:x0<pq) (ly0:y0<pq) (hon0:onN x0 y0=1) (hfar:padd (ptN x0 y0) .far≠.far) (h:Holds s 27 ex35pf):s 2=1∧s 19=0∧s 20=0∧s 24=xOf (padd (ptN x0 y0) .far)∧s 26=yOf (padd (ptN x0 y0) .far):=by
 obtain ⟨h26,h25,h24,h23,h22,h21,h20,h19,h18,h17,h16,h15,h14,h13,h12,h11,h10,h9,h8,h7,h6,h5,h4,h3,h2,_⟩:=h
 have e26:s 26=s 17*s 22 % pq:=h26
 have e25:s 25=0:=(show s 25=0 % pq from h25).trans (Nat.zero_mod _)
 have e24:s 24=s 16*s 22 % pq:=h24
 have e23:s 23=0:=(show s 23=0 % pq from h23).trans (Nat.zero_mod _)
 have e22:s 22=finvq (s 18):=h22
 have e21:s 21=0:=(show s 21=0 % pq from h21).trans (Nat.zero_mod _)
 have e20:s 20=if s 19=1 then 1 else 0:=h20
 have e19:s 19=if s 18=0 then 1 else 0:=h19
 have e18:s 18=szN pq bq (s 0) (s 1) (s 3) (s 8) (s 10) (s 11):=h18
 have e17:s 17=syN pq bq (s 0) (s 1) (s 3) (s 8) (s 10) (s 11):=h17
 have e16:s 16=sxN pq bq (s 0) (s 1) (s 3) (s 8) (s 10) (s 11):=h16
 have e15:s 15=0:=(show s 15=0 % pq from h15).trans (Nat.zero_mod _)
 have e14:s 14=1:=(show s 14=1 % pq from h14).trans mod_one_pq
 have e13:s 13=0:=(show s 13=0 % pq from h13).trans (Nat.zero_mod _)
 have e12:s 12=0:=(show s 12=0 % pq from h12).trans (Nat.zero_mod _)
 have e11:s 11=0:=(show s 11=0 % pq from h11).trans (Nat.zero_mod _)
 have e10:s 10=1:=(show s 10=1 % pq from h10).trans mod_one_pq
 have e9:s 9=0:=(show s 9=0 % pq from h9).trans (Nat.zero_mod _)
 have e8:s 8=0:=(show s 8=0 % pq from h8).trans (Nat.zero_mod _)
 have e7:s 7=0:=(show s 7=0 % pq from h7).trans (Nat.zero_mod _)
 have e6:s 6=1:=(show s 6=1 % pq from h6).trans mod_one_pq
 have e5:s 5=0:=(show s 5=0 % pq from h5).trans (Nat.zero_mod _)
 have e4:s 4=0:=(show s 4=0 % pq from h4).trans (Nat.zero_mod _)
 have e3:s 3=1:=(show s 3=1 % pq from h3).trans mod_one_pq
 have e2:s 2=onN (s 0) (s 1):=h2
 rw [g0,g1,e3,e8,e10,e11] at e16 e17 e18
 have key:=add_nums (onN_on hon0) far_on (rep_one fine x0 y0) (rep_zero fine) e16 e17 e18
 obtain ⟨k0,k1,k2⟩:=key.2 hfar
 rw [if_neg k0] at e19
 rw [if_neg (by rw [e19]; decide)] at e20
 rw [e22,k1] at e24
 rw [e22,k2] at e26
 rw [g0,g1,hon0] at e2
 exact ⟨e2,e19,e20,e24,e26⟩
def ex35ff:List Ex:=[
.feq (.v 23) (.c 1),
.feq (.v 22) (.c 0),
.op 17 [(.v 4),(.v 6),(.v 7),(.v 12),(.v 14),(.v 15)],
.op 16 [(.v 4),(.v 6),(.v 7),(.v 12),(.v 14),(.v 15)],
.op 15 [(.v 4),(.v 6),(.v 7),(.v 12),(.v 14),(.v 15)],
.fcst 0,
.fcst 1,
.fcst 0,
.fcst 0,
.fcst 0,
.fcst 1,
.fcst 0,
.fcst 0,
.fcst 0,
.fcst 1,
.fcst 0,
.fcst 0,
.fcst 0,
.fcst 1,
.fcst 0,
.fcst 0,
.fcst 0,
.fcst 1,
.fcst 0,
.fcst 0]
def dec35ff:List (Nat × Bool):=[(23,true),(24,true)]
def fix35ff:Fix:=fixD 23 2 [] [] dec35ff
def br35ff:BriefR:=⟨.ret,25,ex35ff,[],[.one (.slc 26 0 1 57),.one (.lit (.bool true))],[some (farRow)]⟩
theorem run35ff:briefR (tabX true pointPrims xm4) Try.f35 [26] (runF (tabX true pointPrims xm4) fix35ff 3000 Try.f35 (startSt [.one (.sl 0 0 1),.one (.sl 1 0 1)] [(0,[.lit (.int .u8 0)]),(1,[.lit (.int .u8 0)])] 0 2))=some br35ff:=by kernel_rfl
theorem law35ff {s:Nums} (hfar:padd (.far:Pt pp) .far=.far) (h:Holds s 25 ex35ff):s 23=1∧s 24=1:=by
 obtain ⟨h24,h23,h22,h21,h20,h19,h18,h17,h16,h15,h14,h13,h12,h11,h10,h9,h8,h7,h6,h5,h4,h3,h2,h1,h0,_⟩:=h
 have e24:s 24=if s 23=1 then 1 else 0:=h24
 have e23:s 23=if s 22=0 then 1 else 0:=h23
 have e22:s 22=szN pq bq (s 4) (s 6) (s 7) (s 12) (s 14) (s 15):=h22
 have e21:s 21=syN pq bq (s 4) (s 6) (s 7) (s 12) (s 14) (s 15):=h21
 have e20:s 20=sxN pq bq (s 4) (s 6) (s 7) (s 12) (s 14) (s 15):=h20
 have e19:s 19=0:=(show s 19=0 % pq from h19).trans (Nat.zero_mod _)
 have e18:s 18=1:=(show s 18=1 % pq from h18).trans mod_one_pq
 have e17:s 17=0:=(show s 17=0 % pq from h17).trans (Nat.zero_mod _)
 have e16:s 16=0:=(show s 16=0 % pq from h16).trans (Nat.zero_mod _)
 have e15:s 15=0:=(show s 15=0 % pq from h15).trans (Nat.zero_mod _)
 have e14:s 14=1:=(show s 14=1 % pq from h14).trans mod_one_pq
 have e13:s 13=0:=(show s 13=0 % pq from h13).trans (Nat.zero_mod _)
 have e12:s 12=0:=(show s 12=0 % pq from h12).trans (Nat.zero_mod _)
 have e11:s 11=0:=(show s 11=0 % pq from h11).trans (Nat.zero_mod _)
 have e10:s 10=1:=(show s 10=1 % pq from h10).trans mod_one_pq
 have e9:s 9=0:=(show s 9=0 % pq from h9).trans (Nat.zero_mod _)
 have e8:s 8=0:=(show s 8=0 % pq from h8).trans (Nat.zero_mod _)
 have e7:s 7=0:=(show s 7=0 % pq from h7).trans (Nat.zero_mod _)
 have e6:s 6=1:=(show s 6=1 % pq from h6).trans mod_one_pq
 have e5:s 5=0:=(show s 5=0 % pq from h5).trans (Nat.zero_mod _)
 have e4:s 4=0:=(show s 4=0 % pq from h4).trans (Nat.zero_mod _)
 have e3:s 3=0:=(show s 3=0 % pq from h3).trans (Nat.zero_mod _)
 have e2:s 2=1:=(show s 2=1 % pq from h2).trans mod_one_pq
 have e1:s 1=0:=(show s 1=0 % pq from h1).trans (Nat.zero_mod _)
 have e0:s 0=0:=(show s 0=0 % pq from h0).trans (Nat.zero_mod _)
 rw [e4,e6,e7,e12,e14,e15] at e20 e21 e22
 have key:=add_nums far_on far_on (rep_zero fine) (rep_zero fine) e20 e21 e22
 have k0:=key.1 hfar
 rw [if_pos k0] at e23
 rw [if_pos e23] at e24
 exact ⟨e23,e24⟩
theorem meets35 (w:World) (v1 v2:Value) {p q:Pt pp} (h1:PtAt w v1 p) (h2:PtAt w v2 q):Meets Try.prog 35 #[v1,v2] w (OutPt w (padd p q)):=by
 refine meets_of_calls Try.func35 (by kernel_rfl) (by kernel_rfl) ?_
 cases h1 with
 | far b0 o0 c0 hv0 hc0 hp0 =>
  subst hv0
  have lt0:b0<w.heap.size:=World.block_lt_of_cell? w _ hp0
  cases h2 with
  | far b1 o1 c1 hv1 hc1 hp1 =>
   subst hv1
   have lt1:b1<w.heap.size:=World.block_lt_of_cell? w _ hp1
   have hfar:padd (.far:Pt pp) .far=.far:=rfl
   refine calls_briefR (F:=fix35ff) (tabX_ok pointPrims_ok xm4_ok) run35ff Try.func35 Try.ntmps35 rfl (by decide +kernel) (by decide +kernel) (by decide +kernel) (show 2≤23 by decide) (show 2<4095 by decide) (fun _=>0) (fun r=>if r=0 then (b0,o0) else (b1,o1))
    (vals:=[_,_]) (fun s hs=>⟨⟨c0,hc0,rfl,show 0<2 by decide⟩,⟨c1,hc1,rfl,show 1<2 by decide⟩,trivial⟩) (fun s hs=>⟨show 0<2 by decide,⟨⟨_,hp0,rfl⟩,trivial⟩,show 1<2 by decide,⟨⟨_,hp1,rfl⟩,trivial⟩,trivial⟩) (fun r l hl hr=>by cases hr) (fun r _=>(by show (if r=0 then (b0,o0) else (b1,o1)).1<_; split; exact lt0; exact lt1)) (fun r q _ _ h=>by cases h) ?_ ?_
   ·intro s hs hH i bb hb
    obtain ⟨q0,q1⟩:=law35ff hfar hH
    have:=findT_mem (show findT i dec35ff=some bb from hb)
    simp only [dec35ff,List.mem_cons,List.not_mem_nil,or_false,Prod.mk.injEq] at this
    rcases this with ⟨rfl,rfl⟩|⟨rfl,rfl⟩ <;> assumption
   ·intro s hs hH st' β' a' w' v hv hm hag hr hbe
    obtain ⟨q0,q1⟩:=law35ff hfar hH
    injection (show [lookup 26 st'.mem]=[some farRow] from hm) with hm
    exact ⟨_,rfl,_,out_far hv,(newAt_far hr (l:=List.replicate 56 (.lit (.int .u8 0))) hm (show 2≤26 by decide) hbe rfl).of_eq hfar⟩
  | on b1 o1 c1 x1 y1 hv1 hc1 hp1 lx1 ly1 hon1 =>
   subst hv1
   have lt1:b1<w.heap.size:=World.block_lt_of_cell? w _ (hp1 0 4 rfl)
   have hfar:padd .far (ptN x1 y1)≠.far:=fun h=>by cases h
   refine calls_briefR (F:=fix35fp) (tabX_ok pointPrims_ok xm4_ok) run35fp Try.func35 Try.ntmps35 rfl (by decide +kernel) (by decide +kernel) (by decide +kernel) (show 2≤23 by decide) (show 2<4095 by decide) (fun i=>if i=0 then x1 else y1) (fun r=>if r=0 then (b0,o0) else (b1,o1))
    (vals:=[_,_]) (fun s hs=>⟨⟨c0,hc0,rfl,show 0<2 by decide⟩,⟨c1,hc1,rfl,show 1<2 by decide⟩,trivial⟩) (fun s hs=>⟨show 0<2 by decide,⟨⟨_,hp0,rfl⟩,trivial⟩,show 1<2 by decide,ptRow_row rfl hp1 (hs 0 (by decide)) (hs 1 (by decide)) lx1 ly1,trivial⟩) (fun r l hl hr=>by cases hr) (fun r _=>(by show (if r=0 then (b0,o0) else (b1,o1)).1<_; split; exact lt0; exact lt1)) (fun r q _ _ h=>by cases h) ?_ ?_
   ·intro s hs hH i bb hb
    obtain ⟨q0,q1,q2,q3,q4⟩:=law35fp (hs 0 (by decide)) (hs 1 (by decide)) lx1 ly1 hon1 hfar hH
    have:=findT_mem (show findT i dec35fp=some bb from hb)
    simp only [dec35fp,List.mem_cons,List.not_mem_nil,or_false,Prod.mk.injEq] at this
    rcases this with ⟨rfl,rfl⟩|⟨rfl,rfl⟩|⟨rfl,rfl⟩ <;> assumption
   ·intro s hs hH st' β' a' w' v hv hm hag hr hbe
    obtain ⟨q0,q1,q2,q3,q4⟩:=law35fp (hs 0 (by decide)) (hs 1 (by decide)) lx1 ly1 hon1 hfar hH
    injection (show [lookup 20 st'.mem]=[some (ptRow 24 26)] from hm) with hm
    exact ⟨_,rfl,_,out_on hv,(newAt_on hr hm (show 2≤20 by decide) hbe q3 q4 (xOf_lt _) (yOf_lt _) rfl).of_eq (on_eq hfar)⟩
 | on b0 o0 c0 x0 y0 hv0 hc0 hp0 lx0 ly0 hon0 =>
  subst hv0
  have lt0:b0<w.heap.size:=World.block_lt_of_cell? w _ (hp0 0 4 rfl)
  cases h2 with
  | far b1 o1 c1 hv1 hc1 hp1 =>
   subst hv1
   have lt1:b1<w.heap.size:=World.block_lt_of_cell? w _ hp1
   have hfar:padd (ptN x0 y0) .far≠.far:=fun h=>by cases h
   refine calls_briefR (F:=fix35pf) (tabX_ok pointPrims_ok xm4_ok) run35pf Try.func35 Try.ntmps35 rfl (by decide +kernel) (by decide +kernel) (by decide +kernel) (show 2≤23 by decide) (show 2<4095 by decide) (fun i=>if i=0 then x0 else y0) (fun r=>if r=0 then (b0,o0) else (b1,o1))
    (vals:=[_,_]) (fun s hs=>⟨⟨c0,hc0,rfl,show 0<2 by decide⟩,⟨c1,hc1,rfl,show 1<2 by decide⟩,trivial⟩) (fun s hs=>⟨show 0<2 by decide,ptRow_row rfl hp0 (hs 0 (by decide)) (hs 1 (by decide)) lx0 ly0,show 1<2 by decide,⟨⟨_,hp1,rfl⟩,trivial⟩,trivial⟩) (fun r l hl hr=>by cases hr) (fun r _=>(by show (if r=0 then (b0,o0) else (b1,o1)).1<_; split; exact lt0; exact lt1)) (fun r q _ _ h=>by cases h) ?_ ?_
   ·intro s hs hH i bb hb
    obtain ⟨q0,q1,q2,q3,q4⟩:=law35pf (hs 0 (by decide)) (hs 1 (by decide)) lx0 ly0 hon0 hfar hH
    have:=findT_mem (show findT i dec35pf=some bb from hb)
    simp only [dec35pf,List.mem_cons,List.not_mem_nil,or_false,Prod.mk.injEq] at this
    rcases this with ⟨rfl,rfl⟩|⟨rfl,rfl⟩|⟨rfl,rfl⟩ <;> assumption
   ·intro s hs hH st' β' a' w' v hv hm hag hr hbe
    obtain ⟨q0,q1,q2,q3,q4⟩:=law35pf (hs 0 (by decide)) (hs 1 (by decide)) lx0 ly0 hon0 hfar hH
    injection (show [lookup 20 st'.mem]=[some (ptRow 24 26)] from hm) with hm
    exact ⟨_,rfl,_,out_on hv,(newAt_on hr hm (show 2≤20 by decide) hbe q3 q4 (xOf_lt _) (yOf_lt _) rfl).of_eq (on_eq hfar)⟩
  | on b1 o1 c1 x1 y1 hv1 hc1 hp1 lx1 ly1 hon1 =>
   subst hv1
   have lt1:b1<w.heap.size:=World.block_lt_of_cell? w _ (hp1 0 4 rfl)
   by_cases hfar:padd (ptN x0 y0) (ptN x1 y1)=.far
   ·skip
    refine calls_briefR (F:=fix35F) (tabX_ok pointPrims_ok xm4_ok) run35F Try.func35 Try.ntmps35 rfl (by decide +kernel) (by decide +kernel) (by decide +kernel) (show 2≤23 by decide) (show 2<4095 by decide) (fun i=>if i=0 then x0 else if i=1 then y0 else if i=2 then x1 else y1) (fun r=>if r=0 then (b0,o0) else (b1,o1))
     (vals:=[_,_]) (fun s hs=>⟨⟨c0,hc0,rfl,show 0<2 by decide⟩,⟨c1,hc1,rfl,show 1<2 by decide⟩,trivial⟩) (fun s hs=>⟨show 0<2 by decide,ptRow_row rfl hp0 (hs 0 (by decide)) (hs 1 (by decide)) lx0 ly0,show 1<2 by decide,ptRow_row rfl hp1 (hs 2 (by decide)) (hs 3 (by decide)) lx1 ly1,trivial⟩) (fun r l hl hr=>by cases hr) (fun r _=>(by show (if r=0 then (b0,o0) else (b1,o1)).1<_; split; exact lt0; exact lt1)) (fun r q _ _ h=>by cases h) ?_ ?_
    ·intro s hs hH i bb hb
     obtain ⟨q0,q1,q2,q3⟩:=law35F (hs 0 (by decide)) (hs 1 (by decide)) lx0 ly0 hon0 (hs 2 (by decide)) (hs 3 (by decide)) lx1 ly1 hon1 hfar hH
     have:=findT_mem (show findT i dec35F=some bb from hb)
     simp only [dec35F,List.mem_cons,List.not_mem_nil,or_false,Prod.mk.injEq] at this
     rcases this with ⟨rfl,rfl⟩|⟨rfl,rfl⟩|⟨rfl,rfl⟩|⟨rfl,rfl⟩ <;> assumption
    ·intro s hs hH st' β' a' w' v hv hm hag hr hbe
     obtain ⟨q0,q1,q2,q3⟩:=law35F (hs 0 (by decide)) (hs 1 (by decide)) lx0 ly0 hon0 (hs 2 (by decide)) (hs 3 (by decide)) lx1 ly1 hon1 hfar hH
     injection (show [lookup 14 st'.mem]=[some farRow] from hm) with hm
     exact ⟨_,rfl,_,out_far hv,(newAt_far hr (l:=List.replicate 56 (.lit (.int .u8 0))) hm (show 2≤14 by decide) hbe rfl).of_eq hfar⟩
   ·skip
    refine calls_briefR (F:=fix35N) (tabX_ok pointPrims_ok xm4_ok) run35N Try.func35 Try.ntmps35 rfl (by decide +kernel) (by decide +kernel) (by decide +kernel) (show 2≤23 by decide) (show 2<4095 by decide) (fun i=>if i=0 then x0 else if i=1 then y0 else if i=2 then x1 else y1) (fun r=>if r=0 then (b0,o0) else (b1,o1))
     (vals:=[_,_]) (fun s hs=>⟨⟨c0,hc0,rfl,show 0<2 by decide⟩,⟨c1,hc1,rfl,show 1<2 by decide⟩,trivial⟩) (fun s hs=>⟨show 0<2 by decide,ptRow_row rfl hp0 (hs 0 (by decide)) (hs 1 (by decide)) lx0 ly0,show 1<2 by decide,ptRow_row rfl hp1 (hs 2 (by decide)) (hs 3 (by decide)) lx1 ly1,trivial⟩) (fun r l hl hr=>by cases hr) (fun r _=>(by show (if r=0 then (b0,o0) else (b1,o1)).1<_; split; exact lt0; exact lt1)) (fun r q _ _ h=>by cases h) ?_ ?_
    ·intro s hs hH i bb hb
     obtain ⟨q0,q1,q2,q3,q4,q5⟩:=law35N (hs 0 (by decide)) (hs 1 (by decide)) lx0 ly0 hon0 (hs 2 (by decide)) (hs 3 (by decide)) lx1 ly1 hon1 hfar hH
     have:=findT_mem (show findT i dec35N=some bb from hb)
     simp only [dec35N,List.mem_cons,List.not_mem_nil,or_false,Prod.mk.injEq] at this
     rcases this with ⟨rfl,rfl⟩|⟨rfl,rfl⟩|⟨rfl,rfl⟩|⟨rfl,rfl⟩ <;> assumption
    ·intro s hs hH st' β' a' w' v hv hm hag hr hbe
     obtain ⟨q0,q1,q2,q3,q4,q5⟩:=law35N (hs 0 (by decide)) (hs 1 (by decide)) lx0 ly0 hon0 (hs 2 (by decide)) (hs 3 (by decide)) lx1 ly1 hon1 hfar hH
     injection (show [lookup 14 st'.mem]=[some (ptRow 20 22)] from hm) with hm
     exact ⟨_,rfl,_,out_on hv,(newAt_on hr hm (show 2≤14 by decide) hbe q4 q5 (xOf_lt _) (yOf_lt _) rfl).of_eq (on_eq hfar)⟩
end P224
