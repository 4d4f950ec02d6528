/- A drawn region up to a point. -/
import Derived.Test.YtccmmkgiamcgeaaHT1
set_option linter.all false
namespace P224
open Go Go.RowKit Go.Proofs
set_option maxRecDepth 100000
set_option linter.unusedVariables false
section
variable {P:Program} {T:Tab} {s:Nums} {β:Places} {F:Fix} {w0:World} {st:St} {a:Act} {w:World}
end
end P224
/- The reference's points written: what it does. -/
namespace P224
open Go Go.RowKit Go.Proofs
set_option maxRecDepth 100000
set_option linter.unusedVariables false
theorem Stay.below {s:Nums} {β:Places} {n B:Nat} {L:Nat→Bool} {m:List (Nat × List A0)} {w w':World} (h:Stay s β n L m w) (hB:w.heap.size≤B) (hb:Below B w w'):Stay s β n L m w':=by
 intro r l hL hl j x hx
 obtain ⟨v,h1,h2⟩:=h r l hL hl j x hx
 refine ⟨v,?_,h2⟩
 rw [World.cell?_of_block (hb.block _ (Nat.lt_of_lt_of_le (World.block_lt_of_cell? w _ h1) hB))]
 exact h1
theorem FoldsAt.below {w w':World} {bf of:Nat} (h:FoldsAt w bf of) (hb:Below w.heap.size w w'):FoldsAt w' bf of:=by
 have hl:bf<w.heap.size:=World.block_lt_of_cell? w _ h.1
 have e:=fun o=>World.cell?_of_block (w:=w) (w':=w') (a:=⟨bf,o,none⟩) (hb.block bf hl)
 obtain ⟨h1,h2,h3,h4⟩:=h
 exact ⟨by rw [e]; exact h1,by rw [e]; exact h2,by rw [e]; exact h3,by rw [e]; exact h4⟩
theorem El.below {w w':World} {b o x:Nat} (h:El w b o x) (hb:Below w.heap.size w w'):El w' b o x:=by
 have hl:b<w.heap.size:=World.block_lt_of_cell? w _ (h.1 0 (by decide))
 refine ⟨fun k hk=>?_,h.2⟩
 rw [World.cell?_of_block (w:=w) (w':=w') (hb.block b hl)]
 exact h.1 k hk
def pvals (x y:Nat):List Nat:=4 :: ((List.range 28).map (fun k=>by8 (27 - k) x) ++ (List.range 28).map fun k=>by8 (27 - k) y)
theorem pvals_len (x y:Nat):(pvals x y).length=57:=by simp [pvals]
end P224
/- Points written, as a call that the executor knows. -/
namespace P224
open Go Go.RowKit Go.Proofs
set_option maxRecDepth 100000
set_option linter.unusedVariables false
def X.or (g h:X):X:=fun F st args=>match g F st args with
 | some r=>some r
 | none=>h F st args
theorem X.or_ok {P:Program} {f:FuncId} {g h:X} (hg:XOk P f g) (hh:XOk P f h):XOk P f (X.or g h):=by
 refine ⟨fun {F st st' args av} hq=>?_,fun {s β F w0 st st' a w args vs av} hr hq hargs hH=>?_⟩
 ·unfold X.or at hq
  split at hq
  ·rename_i r hg'
   cases hq
   exact hg.1 hg'
  ·exact hh.1 hq
 ·unfold X.or at hq
  split at hq
  ·rename_i r hg'
   cases hq
   exact hg.2 hr hg' hargs hH
  ·exact hh.2 hr hq hargs hH
def ptRow (i j:Nat):List A0:=.lit (.int .u8 4) :: (byts down i ++ byts down j)
theorem byts_down_get (i k:Nat) (hk:k<28):(byts down i)[k]?=some (.byt i (27 - k)):=by
 rw [byts,List.getElem?_map,List.getElem?_range hk]
 rfl
theorem byts_down_len (i:Nat):(byts down i).length=28:=by simp [byts]
theorem ptRow_len (i j:Nat):(ptRow i j).length=57:=by
 rw [ptRow,List.length_cons,List.length_append,byts_down_len,byts_down_len]
theorem ptRow_rep {s:Nums} {i j:Nat} (hi:s i<pq) (hj:s j<pq) (k:Nat) (x:A0) (hx:(ptRow i j)[k]?=some x) :
  ∃ z:Nat,(pvals (s i) (s j))[k]?=some z∧∀ β n,x.rep s β n (.int .u8 (z:Int)):=by
 match k,hx with
 | 0,hx=>cases hx; exact ⟨4,rfl,fun _ _=>rfl⟩
 | k+1,hx =>
  rw [ptRow,List.getElem?_cons_succ] at hx
  rw [pvals,List.getElem?_cons_succ]
  by_cases hk:k<28
  ·rw [List.getElem?_append_left (by rw [byts_down_len]; exact hk),byts_down_get i k hk] at hx
   cases hx
   rw [List.getElem?_append_left (by simp [hk]),List.getElem?_map,List.getElem?_range hk]
   exact ⟨_,rfl,fun _ _=>⟨rfl,hi⟩⟩
  ·have hk2:k - 28<28:=by
    have h1:=(List.getElem?_eq_some_iff.1 hx).1
    rw [List.length_append,byts_down_len,byts_down_len] at h1
    omega
   rw [List.getElem?_append_right (by rw [byts_down_len]; omega),byts_down_len,byts_down_get j _ hk2] at hx
   cases hx
   rw [List.getElem?_append_right (by simp; omega)]
   simp only [List.length_map,List.length_range]
   rw [List.getElem?_map,List.getElem?_range hk2]
   exact ⟨_,rfl,fun _ _=>⟨rfl,hj⟩⟩
theorem XsOk.app {a b:List (Nat × X)} (ha:XsOk a) (hb:XsOk b):XsOk (a ++ b):=fun f g h=>by
 rcases List.mem_append.1 h with h | h
 ·exact ha f g h
 ·exact hb f g h
end P224
/- Several new regions at once. -/
namespace P224
open Go Go.RowKit Go.Proofs
set_option maxRecDepth 100000
set_option linter.unusedVariables false
section
variable {s:Nums} {β:Places} {F:Fix} {w0:World} {st:St} {a:Act} {w:World}
theorem Rel.add (h:Rel F s β w0 st a w) {b:Nat} (hb1:w0.heap.size≤b) (hb2:b<w.heap.size) (hne:∀ r,F.nold≤r→r<st.nr→(β r).1≠b) {l:List A0}
  (hl:∀ (j:Nat) (x:A0),l[j]?=some x→∃ v,w.cell? ⟨b,j,none⟩=some v∧∀ β',Agree β β' st.nr→β' st.nr=(b,0)→x.rep s β' (st.nr+1) v) (hfz:∀ j,j<l.length→w.frozen? ⟨b,j,none⟩=false) :
  ∃ β',Agree β β' st.nr∧β' st.nr=(b,0)∧Rel F s β' w0 { st with mem:=(st.nr,l) :: st.mem,nr:=st.nr+1 } a w:=by
 let β':Places:=fun r=>if r=st.nr then (b,0) else β r
 have hag:Agree β β' st.nr:=fun r hr=>by simp only [β']; rw [if_neg (by omega)]
 have hnew:β' st.nr=(b,0):=by simp only [β',if_true]
 have hle:st.nr≤st.nr+1:=Nat.le_succ _
 have hb:∀ r,r<st.nr→β' r=β r:=hag
 refine ⟨β',hag,hnew,?_⟩
 refine { size:=h.size,defs:=h.defs,tm:=fun t x hx=>AV.rep_mono hag hle (h.tm t x hx),mem:=?_,frz:=?_,fresh:=?_,dist:=?_,old:=?_,sep:=?_,nold:=Nat.le_trans h.nold hle,outs:=?_,below:=?_,dec:=h.dec,it:=?_,np:=h.npAgree hag }
 ·intro r k hk
  simp only [lookup] at hk
  cases hq:(st.nr == r) with
  | true =>
   have:=beq_iff_eq.1 hq
   subst this
   rw [hq,cond_true] at hk
   cases hk
   refine ⟨Nat.lt_succ_self _,fun j x hx=>?_⟩
   obtain ⟨v,hv,hr⟩:=hl j x hx
   refine ⟨v,?_,hr _ hag hnew⟩
   rw [at_,hnew]
   simp only [Nat.zero_add]
   exact hv
  | false =>
   rw [hq,cond_false] at hk
   obtain ⟨hr,hc⟩:=h.mem r k hk
   refine ⟨Nat.lt_succ_of_lt hr,fun j x hx=>?_⟩
   obtain ⟨v,hv1,hv2⟩:=hc j x hx
   refine ⟨v,?_,A0.rep_mono hag hle hv2⟩
   rw [at_,hb r hr]
   exact hv1
 ·intro r k hk hw j hj
  simp only [lookup] at hk
  cases hq:(st.nr == r) with
  | true =>
   have:=beq_iff_eq.1 hq
   subst this
   rw [hq,cond_true] at hk
   cases hk
   rw [at_,hnew]
   simp only [Nat.zero_add]
   exact hfz j hj
  | false =>
   rw [hq,cond_false] at hk
   obtain ⟨hr,_⟩:=h.mem r k hk
   rw [at_,hb r hr]
   exact h.frz r k hk hw j hj
 ·intro r h1 h2
  simp only at h2
  by_cases hr:r<st.nr
  ·rw [hb r hr]
   exact h.fresh r h1 hr
  ·have:r=st.nr:=by omega
   subst this
   rw [hnew]
   exact ⟨hb1,hb2,rfl⟩
 ·intro r q h1 h2 h3 h4 hrq
  simp only at h3 h4
  by_cases hr:r<st.nr
  ·by_cases hq:q<st.nr
   ·rw [hb r hr,hb q hq]
    exact h.dist r q h1 h2 hr hq hrq
   ·have:q=st.nr:=by omega
    subst this
    rw [hb r hr,hnew]
    exact hne r h1 hr
  ·have:r=st.nr:=by omega
   subst this
   have hq:q<st.nr:=by omega
   rw [hb q hq,hnew]
   exact fun e=>hne q h2 hq e.symm
 ·intro r hr
  rw [hb r (Nat.lt_of_lt_of_le hr h.nold)]
  exact h.old r hr
 ·intro r q hr hq hs
  rw [hb r (Nat.lt_of_lt_of_le hr h.nold),hb q (Nat.lt_of_lt_of_le hq h.nold)]
  exact h.sep r q hr hq hs
 ·intro e he
  obtain ⟨h1,v,h2⟩:=h.outs e he
  exact ⟨h1,v,A0.rep_mono hag hle h2⟩
 ·show Below w0.heap.size (applyOut s β' w0 st.out) _
  rw [applyOut_mono hag h.nold w0 st.out h.outs]
  exact h.below
 ·intro r b' p hl'
  obtain ⟨i1,i2,i3,i4⟩:=h.it r b' p hl'
  refine ⟨i1,Nat.lt_succ_of_lt i2,?_,by rw [hb r i2]; exact i4⟩
  simp only [lookup]
  cases hq:(st.nr == r) with
  | true =>
   have:=beq_iff_eq.1 hq
   omega
  | false=>rw [cond_false]; exact i3
theorem Rel.far_from (h:Rel F s β w0 st a w) {b B:Nat} (hB:w.heap.size≤b):∀ r,F.nold≤r→r<st.nr→(β r).1≠b:=fun r _ h2 e=>by
 have:=h.block_lt h2
 omega
theorem l32s_cells {i b x:Nat} (h:El w b 0 x) (hs:s i=x) (j:Nat) (y:A0) (hy:(l32s i)[j]?=some y):∃ v,w.cell? ⟨b,j,none⟩=some v∧∀ (β':Places) n,y.rep s β' n v:=by
 have hj:j<7:=by
  have:=(List.getElem?_eq_some_iff.1 hy).1
  simpa [l32s] using this
 rw [l32s,List.getElem?_map,List.getElem?_range hj] at hy
 cases hy
 refine ⟨_,by have:=h.1 j hj; rw [Nat.zero_add] at this; exact this,fun β' n=>⟨?_,?_⟩⟩
 ·rw [hs]; rfl
 ·rw [hs]; exact h.2
def NewEls (w:World) (x y:Nat) (bx b2:Nat) (w':World):Prop :=
 w.heap.size≤bx∧bx<w'.heap.size∧w.heap.size≤b2∧b2<w'.heap.size∧bx≠b2∧El w' bx 0 x∧El w' b2 0 y∧(∀ k,k<7→w'.frozen? ⟨bx,k,none⟩=false)∧(∀ k,k<7→w'.frozen? ⟨b2,k,none⟩=false)∧Below w.heap.size w w'
theorem Rel.els (h:Rel F s β w0 st a w) {x y bx b2 i j:Nat} {w':World} (hn:NewEls w x y bx b2 w') (hi:s i=x) (hj:s j=y) :
  ∃ β',Agree β β' st.nr∧β' st.nr=(bx,0)∧β' (st.nr+1)=(b2,0)∧Rel F s β' w0 { st with mem:=(st.nr+1,l32s j) :: (st.nr,l32s i) :: st.mem,nr:=st.nr+2 } a w':=by
 obtain ⟨h1,h2,h3,h4,h5,h6,h7,h8,h9,h10⟩:=hn
 have hsz:=h.size_le
 have f1:=h.far_from (B:=0) h1
 have f2:=h.far_from (B:=0) h3
 have hk:=h.kept h10
 obtain ⟨β1,g1,g2,g3⟩:=hk.add (Nat.le_trans hsz h1) h2 f1 (l:=l32s i) (fun k z hz=>by
  obtain ⟨v,u1,u2⟩:=l32s_cells h6 hi k z hz
  exact ⟨v,u1,fun β' _ _=>u2 β' _⟩) (fun k hk=>h8 k (by simpa [l32s] using hk))
 obtain ⟨β2,e1,e2,e3⟩:=g3.add (Nat.le_trans hsz h3) h4 (fun r hr1 hr2=>by
  by_cases hr:r<st.nr
  ·rw [g1 r hr]; exact f2 r hr1 hr
  ·have hr2':r<st.nr+1:=hr2
   have:r=st.nr:=by omega
   subst this
   rw [g2]
   exact h5) (l:=l32s j) (fun k z hz=>by
  obtain ⟨v,u1,u2⟩:=l32s_cells h7 hj k z hz
  exact ⟨v,u1,fun β' _ _=>u2 β' _⟩) (fun k hk=>h9 k (by simpa [l32s] using hk))
 exact ⟨β2,g1.trans e1 (Nat.le_succ _),by rw [e1 st.nr (Nat.lt_succ_self _),g2],e2,e3⟩
end
end P224
