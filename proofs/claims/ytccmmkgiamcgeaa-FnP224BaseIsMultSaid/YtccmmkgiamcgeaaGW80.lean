/- Runs from the middle of a code, by what lies in the world; the generator's table by its rows. -/
import Derived.Test.YtccmmkgiamcgeaaGW79
import Derived.Test.YtccmmkgiamcgeaaGZ6
set_option linter.all false
namespace P224
open Go Go.RowKit Go.Proofs
set_option maxRecDepth 100000
set_option linter.unusedVariables false
theorem applyOut_cell {s:Nums} {β:Places} {w:World} {p:Addr}:∀ {l:List (Nat × Nat × A0)},(∀ e ∈ l,at_ β e.1 e.2.1≠p)→(applyOut s β w l).cell? p=w.cell? p
 | [],_=>rfl
 | (r,o,x) :: l,h=>by
  rw [applyOut,World.cell?_setCell_other _ _ _ _ (h _ List.mem_cons_self)]
  exact applyOut_cell fun e he=>h e (List.mem_cons_of_mem _ he)
theorem applyOut_some {s:Nums} {β:Places} {w:World} {p:Addr} (h:∃ v,w.cell? p=some v):∀ {l:List (Nat × Nat × A0)},∃ v,(applyOut s β w l).cell? p=some v
 | []=>h
 | (r,o,x) :: l=>by
  obtain ⟨v,hv⟩:=applyOut_some (s:=s) (β:=β) h (l:=l)
  exact cell?_setCell_some hv
theorem applyOut_frozen {s:Nums} {β:Places} {w:World} {p:Addr}:∀ {l:List (Nat × Nat × A0)},(applyOut s β w l).frozen? p=w.frozen? p
 | []=>rfl
 | (r,o,x) :: l=>by rw [applyOut,World.frozen?_setCell,applyOut_frozen]
theorem applyOut_below {n:Nat} {s:Nums} {β:Places} {w0 w:World} (hb:Below n w0 w):∀ {l:List (Nat × Nat × A0)},(∀ e ∈ l,n≤(β e.1).1)→Below n w0 (applyOut s β w l)
 | [],_=>hb
 | (r,o,x) :: l,h=>by
  rw [applyOut]
  exact (applyOut_below hb fun e he=>h e (List.mem_cons_of_mem _ he)).setCell (p:=at_ β r o) (h _ List.mem_cons_self) _
theorem rel_here {F:Fix} {s:Nums} {β:Places} {w:World} {a:Act} {tl:List (Nat × AV)} {ml:List (Nat × List A0)} {nx:Nat} (hsz:a.tmps.size=F.nt) (hd:a.defers=[]) (htm:∀ e ∈ tl,e.2.rep s β F.nold (a.tmps.getD e.1 undef)) (hmem:MemOk s β F.nold w ml)
  (hfrz:∀ r l,lookup r ml=some l→F.wr r=true→∀ j,j<l.length→w.frozen? (at_ β r j)=false) (hold:∀ r,r<F.nold→(β r).1<w.heap.size) (hsep:∀ r q,r<F.nold→q<F.nold→F.sep r q=true→(β r).1≠(β q).1) (hdec:Dec F s) (hnp:∀ r,F.np r=none):Rel F s β w (headSt tl ml nx F.nold) a w:=by
 refine { size:=hsz,defs:=hd,tm:=fun t x hx=>htm _ (tmL_get hx),mem:=hmem.get,frz:=fun r l hl hr j hj=>?_,fresh:=fun r h1 h2=>?_,dist:=fun r q h1 _ h3 _ _=>?_,old:=hold,sep:=hsep,nold:=Nat.le_refl _,outs:=fun e he=>(by cases he),below:=Below.refl _ _,dec:=hdec,np:=fun r i j h=>(by rw [hnp r] at h; cases h),it:=fun r b p hh=>(by cases hh) }
 ·rcases hr with hr | hr
  ·have:=(hmem.get r l hl).1
   omega
  ·exact hfrz r l hl hr j hj
 ·have:r<F.nold:=h2
  omega
 ·have:r<F.nold:=h3
  omega
structure TPt (W0 w:World) (bt:Nat) (P q:PtR) (g:Pt pp):Prop where
 cells:q.cells w
 nums:∃ X Y Z,q.val w X Y Z∧Rep (toTri pp (X,Y,Z)) g
 new:W0.heap.size≤q.b∧W0.heap.size≤q.bx∧W0.heap.size≤q.b2∧W0.heap.size≤q.bz
 off:∀ b,b=bt∨b=P.bx∨b=P.b2∨b=P.bz→q.b≠b∧q.bx≠b∧q.b2≠b∧q.bz≠b
def TabRow (W0 w:World) (bt:Nat) (P:PtR) (i:Nat) (g:Pt pp):Prop:=∀ j,j<15→∃ q:PtR,w.cell? ⟨bt,15*i+j,none⟩=some (ptrTo q.b q.o)∧TPt W0 w bt P q (nsmul (j+1) g)
structure Inv79 (W0 w:World) (bt:Nat) (P:PtR) (i:Nat):Prop where
 below:Below W0.heap.size W0 w
 bt0:W0.heap.size≤bt
 cells:∀ k,k<840→(∃ v,w.cell? ⟨bt,k,none⟩=some v)∧w.frozen? ⟨bt,k,none⟩=false
 pc:P.cells w
 base:∃ X Y Z,P.val w X Y Z∧Rep (toTri pp (X,Y,Z)) (nsmul (16 ^ i) gg)
 room:P.room w
 apart:P.apart
 pnew:W0.heap.size≤P.b∧W0.heap.size≤P.bx∧W0.heap.size≤P.b2∧W0.heap.size≤P.bz
 poff:P.b≠bt∧P.bx≠bt∧P.b2≠bt∧P.bz≠bt
 rows:∀ k,k<i→TabRow W0 w bt P k (nsmul (16 ^ k) gg)
structure Kept79 (w w':World) (bt:Nat) (P:PtR) (i:Nat):Prop where
 size:w.heap.size≤w'.heap.size
 other:∀ p:Addr,p.block<w.heap.size→p.block≠bt→p.block≠P.bx→p.block≠P.b2→p.block≠P.bz→w'.cell? p=w.cell? p
 table:∀ k,(k<15*i∨15*i+15≤k)→bt<w.heap.size→w'.cell? ⟨bt,k,none⟩=w.cell? ⟨bt,k,none⟩
theorem TPt.kept {W0 w w':World} {bt:Nat} {P q:PtR} {i:Nat} {g:Pt pp} (h:TPt W0 w bt P q g) (hk:Kept79 w w' bt P i):TPt W0 w' bt P q g:=by
 obtain ⟨c1,c2,c3⟩:=h.cells
 obtain ⟨X,Y,Z,⟨v1,v2,v3,l1,l2,l3⟩,hr⟩:=h.nums
 have off:=h.off
 have same:∀ b o v,w.cell? ⟨b,o,none⟩=some v→(∀ c,c=bt∨c=P.bx∨c=P.b2∨c=P.bz→b≠c)→w'.cell? ⟨b,o,none⟩=some v:=fun b o v hv hne=>by
  rw [hk.other ⟨b,o,none⟩ (World.block_lt_of_cell? w _ hv) (hne _ (.inl rfl)) (hne _ (.inr (.inl rfl))) (hne _ (.inr (.inr (.inl rfl)))) (hne _ (.inr (.inr (.inr rfl))))]
  exact hv
 refine ⟨⟨same _ _ _ c1 fun c hc=>(off c hc).1,same _ _ _ c2 fun c hc=>(off c hc).1,same _ _ _ c3 fun c hc=>(off c hc).1⟩,⟨X,Y,Z,⟨fun k hk'=>same _ _ _ (v1 k hk') fun c hc=>(off c hc).2.1,fun k hk'=>same _ _ _ (v2 k hk') fun c hc=>(off c hc).2.2.1,fun k hk'=>same _ _ _ (v3 k hk') fun c hc=>(off c hc).2.2.2,l1,l2,l3⟩,hr⟩,h.new,h.off⟩
theorem TabRow.kept {W0 w w':World} {bt:Nat} {P:PtR} {i k:Nat} {g:Pt pp} (h:TabRow W0 w bt P k g) (hk:Kept79 w w' bt P i) (hlt:bt<w.heap.size) (hki:k≠i):TabRow W0 w' bt P k g:=fun j hj=>by
 obtain ⟨q,h1,h2⟩:=h j hj
 exact ⟨q,by rw [hk.table (15*k+j) (by omega) hlt]; exact h1,h2.kept hk⟩
theorem rowE_ok {s:Nums} {g:Pt pp} (hg:OnC bb g) (h0:RN s 0 1 2 g):∀ j,Holds s (7+7*j) (rowE j)→∀ k,k≤j→RN s (tn k) (tn k+1) (tn k+2) (nsmul (k+1) g)
 | 0,_,k,hk=>by
  have:k=0:=by omega
  subst this
  rw [nsmul_one]
  exact h0
 | j+1,hH,k,hk=>by
  have e:7+7*(j+1)=7+7*j+4+3:=by omega
  rw [e] at hH
  have hN:Holds s (7+7*j+4) (rowE.newE (rowE j)):=by
   obtain ⟨_,_,_,hr⟩:=hH
   exact hr
  have hT:Holds s (7+7*j) (rowE j):=by
   obtain ⟨_,_,_,_,hr⟩:=hN
   exact hr
  have ih:=rowE_ok hg h0 j hT
  by_cases h:k≤j
  ·exact ih k h
  ·have:k=j+1:=by omega
   subst this
   obtain ⟨q,_⟩:=addE_ok (b:=7+7*j+4) (nsmul_on fine hg _) hg (ih j (Nat.le_refl _)) h0 hH
   have ea:padd (nsmul (j+1) g) g=nsmul (j+1+1) g:=by
    have h1:=nsmul_add fine hg (j+1) 1
    rw [nsmul_one] at h1
    exact h1.symm
   rw [ea] at q
   have et:tn (j+1)=7+7*j+4:=by unfold tn; rw [if_neg (by omega)]; omega
   rw [et]
   exact q
theorem exT_ok {s:Nums} {K:Nat} (h0:RN s 0 1 2 (nsmul K gg)) (hH:Holds s 117 exT):(∀ k,k<15→RN s (tn k) (tn k+1) (tn k+2) (nsmul (k+1) (nsmul K gg)))∧RN s 114 115 116 (nsmul (16*K) gg):=by
 obtain ⟨d,hl⟩:=dbl4_ok (b:=105) (i:=0) gg_on h0 hH
 exact ⟨fun k hk=>rowE_ok (nsmul_on fine gg_on K) h0 14 hl k (by omega),d⟩
end P224
/- The generator's table: a row more. -/
namespace P224
open Go Go.RowKit Go.Proofs
set_option maxRecDepth 100000
set_option linter.unusedVariables false
theorem limbs_el {F:Fix} {s:Nums} {β:Places} {w0:World} {st:St} {a:Act} {w:World} (hr:Rel F s β w0 st a w) {r i:Nat} (hl:lookup r st.mem=some (limbs i)):ElemAt w (β r).1 (β r).2 (s i)∧s i<pq:=by
 have hc:=(hr.mem r _ hl).2
 obtain ⟨v0,a0,b0,b0'⟩:=hc 0 (.limb i 0) rfl
 obtain ⟨v1,a1,b1,_⟩:=hc 1 (.limb i 1) rfl
 obtain ⟨v2,a2,b2,_⟩:=hc 2 (.limb i 2) rfl
 obtain ⟨v3,a3,b3,_⟩:=hc 3 (.limb i 3) rfl
 subst b0 b1 b2 b3
 refine ⟨fun k hk=>?_,b0'⟩
 match k,hk with
 | 0,_=>exact a0
 | 1,_=>exact a1
 | 2,_=>exact a2
 | 3,_=>exact a3
theorem ptr_cell {F:Fix} {s:Nums} {β:Places} {w0:World} {st:St} {a:Act} {w:World} (hr:Rel F s β w0 st a w) {r q:Nat} {l:List A0} {j:Nat} (hl:lookup r st.mem=some l) (hj:l[j]?=some (.ptr q 0)):w.cell? (at_ β r j)=some (ptrTo (β q).1 (β q).2)∧q<st.nr:=by
 obtain ⟨v,h1,h2,h3⟩:=(hr.mem r _ hl).2 j _ hj
 rw [h1,h2]
 exact ⟨rfl,h3⟩
theorem rowT_el (i j c:Nat) (hc:c<3):rowT i (5+4*j+c)=limbs (tn j+c):=by
 unfold rowT
 rw [if_neg (by omega),if_neg (by omega),if_neg (by omega),if_neg (by omega),show (5+4*j+c - 5) / 4=j by omega,show (5+4*j+c - 5) % 4=c by omega]
theorem rowT_pt (i j:Nat):rowT i (8+4*j)=[.ptr (5+4*j) 0,.ptr (6+4*j) 0,.ptr (7+4*j) 0]:=by
 unfold rowT
 rw [if_neg (by omega),if_neg (by omega),if_neg (by omega),if_pos (by omega),show 8+4*j - 3=5+4*j by omega,show 8+4*j - 2=6+4*j by omega,show 8+4*j - 1=7+4*j by omega]
theorem rowT_tab (i j:Nat) (hi:i<56) (hj:j<15):(rowT i 0)[15*i+j]?=some (.ptr (8+4*j) 0):=by
 have e0:rowT i 0=(List.range 840).map (fun k=>if 15*i≤k∧k<15*i+15 then .ptr (8+4*(k - 15*i)) 0 else .any):=if_pos rfl
 rw [e0,List.getElem?_map,List.getElem?_range (by omega)]
 show some (if 15*i≤15*i+j∧15*i+j<15*i+15 then A0.ptr (8+4*(15*i+j - 15*i)) 0 else .any)=_
 rw [if_pos ⟨by omega,by omega⟩,show 15*i+j - 15*i=j by omega]
theorem anyRow_row {s:Nums} {β:Places} {n r:Nat} {w:World}:∀ (m k:Nat),(∀ j,j<m→∃ v,w.cell? (at_ β r (k+j))=some v)→RowOk s β n r w k (anyRow m)
 | 0,_,_=>trivial
 | m+1,k,h=>⟨by
   obtain ⟨v,hv⟩:=h 0 (by omega)
   exact ⟨v,hv,trivial⟩,anyRow_row m (k+1) fun j hj=>by
   have:=h (j+1) (by omega)
   rw [show k+1+j=k+(j+1) by omega]
   exact this⟩
structure TmT (a:Act) (bt:Nat) (P:PtR) (i:Nat):Prop where
 size:a.tmps.size=56
 defs:a.defers=[]
 t3:a.tmps.getD 3 undef=ptrTo bt 0
 t4:a.tmps.getD 4 undef=ptrTo P.b P.o
 t5:a.tmps.getD 5 undef=.int .i64 ((i:Nat):Int)
def betaT (bt:Nat) (P:PtR):Places:=fun r=>if r=0 then (bt,0) else if r=1 then (P.b,P.o) else if r=2 then (P.bx,P.ox) else if r=3 then (P.b2,P.oy) else (P.bz,P.oz)
theorem row_step {W0 w:World} {bt:Nat} {P:PtR} {i:Nat} (hi:i<56) (hrun:RowRun i) (h:Inv79 W0 w bt P i) {a:Act} (ht:TmT a bt P i) {Q:Exit→Act→World→Prop}
  (hn:∀ a' w',TmT a' bt P (i+1)→Inv79 W0 w' bt P (i+1)→Q .normal a' w'):gO.wp Try.prog Q a w:=by
 obtain ⟨X,Y,Z,⟨vx,vy,vz,lx,ly,lz⟩,hrep⟩:=h.base
 obtain ⟨s,hH,hs⟩:=exists_nums (fun k=>if k=0 then X else if k=1 then Y else Z) (l:=exT) (n:=117) (by decide +kernel) (by decide +kernel)
 have s0:s 0=X:=hs 0 (by decide +kernel)
 have s1:s 1=Y:=hs 1 (by decide +kernel)
 have s2:s 2=Z:=hs 2 (by decide +kernel)
 have hlt:bt<w.heap.size:=by
  obtain ⟨⟨v,hv⟩,_⟩:=h.cells 0 (by decide)
  exact World.block_lt_of_cell? w _ hv
 have hlP:P.b<w.heap.size:=World.block_lt_of_cell? w _ h.pc.1
 have lts:∀ r,r<5→(betaT bt P r).1<w.heap.size:=fun r _=>by
  show (if r=0 then (bt,0) else if r=1 then (P.b,P.o) else if r=2 then (P.bx,P.ox) else if r=3 then (P.b2,P.oy) else (P.bz,P.oz)).1<_
  repeat' split
  ·exact hlt
  ·exact hlP
  ·exact h.room.2.1
  ·exact h.room.2.2.1
  ·exact h.room.2.2.2
 obtain ⟨p1,p2,p3,p4⟩:=h.poff
 obtain ⟨q1,q2,q3,q4,q5,q6⟩:=h.apart
 have seps:∀ r q,r<5→q<5→fixT.sep r q=true→(betaT bt P r).1≠(betaT bt P q).1:=fun r q hr hq hs=>by
  have hne:r≠q:=by
   have:(wrT r || wrT q)=true∧decide (r≠q)=true:=by
    have:=hs
    unfold fixT at this
    exact Bool.and_eq_true_iff.1 this
   exact of_decide_eq_true this.2
  match r,q,hr,hq with
  | 0,0,_,_=>exact absurd rfl hne
  | 0,1,_,_=>exact p1.symm
  | 0,2,_,_=>exact p2.symm
  | 0,3,_,_=>exact p3.symm
  | 0,4,_,_=>exact p4.symm
  | 1,0,_,_=>exact p1
  | 1,1,_,_=>exact absurd rfl hne
  | 1,2,_,_=>exact q1
  | 1,3,_,_=>exact q2
  | 1,4,_,_=>exact q3
  | 2,0,_,_=>exact p2
  | 2,1,_,_=>exact q1.symm
  | 2,2,_,_=>exact absurd rfl hne
  | 2,3,_,_=>exact q4
  | 2,4,_,_=>exact q5
  | 3,0,_,_=>exact p3
  | 3,1,_,_=>exact q2.symm
  | 3,2,_,_=>exact q4.symm
  | 3,3,_,_=>exact absurd rfl hne
  | 3,4,_,_=>exact q6
  | 4,0,_,_=>exact p4
  | 4,1,_,_=>exact q3.symm
  | 4,2,_,_=>exact q5.symm
  | 4,3,_,_=>exact q6.symm
  | 4,4,_,_=>exact absurd rfl hne
  | r+5,_,hr,_=>omega
  | _,q+5,_,hq=>omega
 have hmem:MemOk s (betaT bt P) 5 w memT :=
  ⟨show 0<5 by decide,anyRow_row 840 0 (fun j hj=>by
   obtain ⟨⟨v,hv⟩,_⟩:=h.cells j hj
   refine ⟨v,?_⟩
   show w.cell? ⟨bt,0+(0+j),none⟩=_
   rw [show 0+(0+j)=j by omega]
   exact hv),show 1<5 by decide,pt_row (p:=P) rfl rfl rfl rfl h.pc (by decide),show 2<5 by decide,limb_row rfl vx s0 lx,show 3<5 by decide,limb_row rfl vy s1 ly,show 4<5 by decide,limb_row rfl vz s2 lz,trivial⟩
 have hr:Rel fixT s (betaT bt P) w (headSt (tmT i) memT 3 5) a w:=by
  refine rel_here ht.size ht.defs (fun e he=>?_) hmem (fun r l hl hw j hj=>?_) lts seps (fun i b hb=>by cases hb) fun _=>rfl
  ·rcases List.mem_cons.1 he with rfl | he
   ·exact ⟨ht.t3,show 0<5 by decide⟩
   ·rcases List.mem_cons.1 he with rfl | he
    ·exact ⟨ht.t4,show 1<5 by decide⟩
    ·rcases List.mem_cons.1 he with rfl | he
     ·exact ht.t5
     ·cases he
  ·have hm:=lkup_mem hl
   rcases List.mem_cons.1 hm with e | hm
   ·cases e
    have:j<840:=by rw [anyRow,List.length_replicate] at hj; exact hj
    show w.frozen? ⟨bt,0+j,none⟩=false
    rw [Nat.zero_add]
    exact (h.cells j this).2
   ·rcases List.mem_cons.1 hm with e | hm
    ·cases e; cases hw
    ·rcases List.mem_cons.1 hm with e | hm
     ·cases e; exact (h.room.1.1 j hj).2
     ·rcases List.mem_cons.1 hm with e | hm
      ·cases e; exact (h.room.1.2.1 j hj).2
      ·rcases List.mem_cons.1 hm with e | hm
       ·cases e; exact (h.room.1.2.2 j hj).2
       ·cases hm
 obtain ⟨st',hst,hchk,hnx,hexs,htm,hmm⟩:=peekT_spec hrun
 refine run_wp (tabX_ok pointPrims_ok xi5_ok) hr hst (by rw [hnx,hexs]; exact hH) fun β a' w' hag hr'=>?_
 have hb:∀ r,r<5→β r=betaT bt P r:=fun r hr=>hag r hr
 have row:∀ r,r<65→lookup r st'.mem=some (rowT i r):=fun r hr=>map_mem (f:=fun r=>lookup r st'.mem) (g:=fun r=>some (rowT i r)) hmm r (List.mem_range.2 hr)
 have b0:=hb 0 (by decide)
 have b1:=hb 1 (by decide)
 have b2:=hb 2 (by decide)
 have b3:=hb 3 (by decide)
 have b4:=hb 4 (by decide)
 have hbelow:=hr'.below
 have osp:∀ e ∈ st'.out,(e.1=0∧15*i≤e.2.1∧e.2.1<15*i+15)∨(2≤e.1∧e.1≤4):=fun e he=>by
  have:=List.all_eq_true.1 hchk e he
  simp only [outT,Bool.or_eq_true,Bool.and_eq_true,decide_eq_true_eq] at this
  rcases this with ⟨⟨g1,g2⟩,g3⟩ | g
  ·exact .inl ⟨g1,g2,g3⟩
  ·exact .inr g
 have blk:∀ e ∈ st'.out,(β e.1).1=bt∨(β e.1).1=P.bx∨(β e.1).1=P.b2∨(β e.1).1=P.bz:=fun e he=>by
  rcases osp e he with ⟨g,_⟩|⟨g1,g2⟩
  ·rw [g,b0]; exact .inl rfl
  ·have:e.1=2∨e.1=3∨e.1=4:=by omega
   rcases this with g | g | g
   ·rw [g,b2]; exact .inr (.inl rfl)
   ·rw [g,b3]; exact .inr (.inr (.inl rfl))
   ·rw [g,b4]; exact .inr (.inr (.inr rfl))
 have hk:Kept79 w w' bt P i:=by
  refine ⟨hr'.size_le,fun p g0 g1 g2 g3 g4=>?_,fun k hk _=>?_⟩
  ·rw [hbelow.cell g0]
   refine applyOut_cell fun e he hE=>?_
   have hEb:(β e.1).1=p.block:=by rw [← hE]; rfl
   rcases blk e he with g | g | g | g
   ·exact g1 (hEb.symm.trans g)
   ·exact g2 (hEb.symm.trans g)
   ·exact g3 (hEb.symm.trans g)
   ·exact g4 (hEb.symm.trans g)
  ·rw [hbelow.cell (p:=⟨bt,k,none⟩) hlt]
   refine applyOut_cell fun e he hE=>?_
   rcases osp e he with ⟨g,g1,g2⟩|⟨g1,g2⟩
   ·rw [g,at_,b0] at hE
    have:0+e.2.1=k:=congrArg Addr.off hE
    omega
   ·have hEb:(β e.1).1=bt:=congrArg Addr.block hE
    have:e.1=2∨e.1=3∨e.1=4:=by omega
    rcases this with g | g | g
    ·rw [g,b2] at hEb; exact p2 hEb
    ·rw [g,b3] at hEb; exact p3 hEb
    ·rw [g,b4] at hEb; exact p4 hEb
 have h16:=exT_ok (s:=s) (K:=16 ^ i) (by
  show Rep (toTri pp (s 0,s 1,s 2)) _
  rw [s0,s1,s2]
  exact hrep) hH
 obtain ⟨hrowN,hbaseN⟩:=h16
 refine hn a' w' ?_ ?_
 ·have g3:st'.tm.get 3=some (.one (.ptr 0 0)):=by injection htm
  have g4:st'.tm.get 4=some (.one (.ptr 1 0)):=by injection htm with _ t; injection t
  have g5:st'.tm.get 5=some (.one (.lit (.int .i64 ((i+1:Nat):Int)))):=by injection htm with _ t; injection t with _ t; injection t
  refine ⟨hr'.size,hr'.defs,?_,?_,?_⟩
  ·have:=(hr'.tm 3 _ g3).1
   rw [at_,b0] at this
   exact this
  ·have:=(hr'.tm 4 _ g4).1
   rw [at_,b1] at this
   exact this
  ·exact hr'.tm 5 _ g5
 ·have hnew:W0.heap.size≤w.heap.size:=h.below.size
  have fr:∀ j c,j<15→c<4→w.heap.size≤(β (5+4*j+c)).1∧(β (5+4*j+c)).2=0:=fun j c hj hc=>by
   have hl:=row (5+4*j+c) (by omega)
   have:=hr'.fresh (5+4*j+c) (show 5≤_ by omega) (hr'.mem _ _ hl).1
   exact ⟨this.1,this.2.2⟩
  have newRow:TabRow W0 w' bt P i (nsmul (16 ^ i) gg):=fun j hj=>by
   have r8:=row (8+4*j) (by omega)
   rw [rowT_pt] at r8
   obtain ⟨c0,_⟩:=ptr_cell hr' (row 0 (by decide)) (rowT_tab i j hi hj)
   obtain ⟨c1,_⟩:=ptr_cell hr' r8 (j:=0) rfl
   obtain ⟨c2,_⟩:=ptr_cell hr' r8 (j:=1) rfl
   obtain ⟨c3,_⟩:=ptr_cell hr' r8 (j:=2) rfl
   have e5:=row (5+4*j+0) (by omega)
   have e6:=row (5+4*j+1) (by omega)
   have e7:=row (5+4*j+2) (by omega)
   rw [rowT_el _ _ _ (by decide)] at e5 e6 e7
   obtain ⟨x5,l5⟩:=limbs_el hr' e5
   obtain ⟨x6,l6⟩:=limbs_el hr' e6
   obtain ⟨x7,l7⟩:=limbs_el hr' e7
   obtain ⟨f5,z5⟩:=fr j 0 hj (by decide)
   obtain ⟨f6,z6⟩:=fr j 1 hj (by decide)
   obtain ⟨f7,z7⟩:=fr j 2 hj (by decide)
   obtain ⟨f8,z8⟩:=fr j 3 hj (by decide)
   have a5:5+4*j+0=5+4*j:=rfl
   have a6:5+4*j+1=6+4*j:=by omega
   have a7:5+4*j+2=7+4*j:=by omega
   have a8:5+4*j+3=8+4*j:=by omega
   rw [a5] at x5 f5 z5
   rw [a6] at x6 f6 z6
   rw [a7] at x7 f7 z7
   rw [a8] at f8 z8
   refine ⟨⟨(β (8+4*j)).1,(β (8+4*j)).2,(β (5+4*j)).1,(β (5+4*j)).2,(β (6+4*j)).1,(β (6+4*j)).2,(β (7+4*j)).1,(β (7+4*j)).2⟩,?_,⟨c1,c2,c3⟩,⟨_,_,_,⟨x5,x6,x7,l5,l6,l7⟩,hrowN j hj⟩,⟨?_,?_,?_,?_⟩,fun b hb=>?_⟩
   ·rw [at_,b0] at c0
    have e:(betaT bt P 0).2+(15*i+j)=15*i+j:=Nat.zero_add _
    rw [e] at c0
    exact c0
   ·exact Nat.le_trans hnew f8
   ·exact Nat.le_trans hnew f5
   ·exact Nat.le_trans hnew f6
   ·exact Nat.le_trans hnew f7
   ·have hbl:b<w.heap.size:=by
     rcases hb with rfl | rfl | rfl | rfl
     ·exact hlt
     ·exact h.room.2.1
     ·exact h.room.2.2.1
     ·exact h.room.2.2.2
    exact ⟨show (β (8+4*j)).1≠b by omega,show (β (5+4*j)).1≠b by omega,show (β (6+4*j)).1≠b by omega,show (β (7+4*j)).1≠b by omega⟩
  have same:∀ p:Addr,p.block<w.heap.size→(∃ v,w.cell? p=some v)→(∃ v,w'.cell? p=some v):=fun p hp hv=>by
   rw [hbelow.cell hp]
   exact applyOut_some hv
  have sfr:∀ p:Addr,p.block<w.heap.size→w'.frozen? p=w.frozen? p:=fun p hp=>by
   rw [hbelow.frozen hp]
   exact applyOut_frozen
  obtain ⟨⟨m1,m2,m3⟩,n1,n2,n3⟩:=h.room
  have hsz:=hr'.size_le
  obtain ⟨x2,l2⟩:=limbs_el hr' (row 2 (by decide))
  obtain ⟨x3,l3⟩:=limbs_el hr' (row 3 (by decide))
  obtain ⟨x4,l4⟩:=limbs_el hr' (row 4 (by decide))
  rw [b2] at x2
  rw [b3] at x3
  rw [b4] at x4
  have r1:=row 1 (by decide)
  obtain ⟨c1,_⟩:=ptr_cell hr' r1 (j:=0) (q:=2) rfl
  obtain ⟨c2,_⟩:=ptr_cell hr' r1 (j:=1) (q:=3) rfl
  obtain ⟨c3,_⟩:=ptr_cell hr' r1 (j:=2) (q:=4) rfl
  rw [at_,b1,b2] at c1
  rw [at_,b1,b3] at c2
  rw [at_,b1,b4] at c3
  refine { below:=?_,bt0:=h.bt0,cells:=fun k hk=>?_,pc:=⟨c1,c2,c3⟩,base:=⟨_,_,_,⟨x2,x3,x4,l2,l3,l4⟩,?_⟩,room:=⟨⟨?_,?_,?_⟩,?_,?_,?_⟩,apart:=h.apart,pnew:=h.pnew,poff:=h.poff,rows:=fun k hk'=>?_ }
  ·refine (applyOut_below (s:=s) (β:=β) h.below fun e he=>?_).trans (hbelow.mono hnew)
   rcases blk e he with g | g | g | g
   ·rw [g]; exact h.bt0
   ·rw [g]; exact h.pnew.2.1
   ·rw [g]; exact h.pnew.2.2.1
   ·rw [g]; exact h.pnew.2.2.2
  ·exact ⟨same _ hlt (h.cells k hk).1,by rw [sfr _ hlt]; exact (h.cells k hk).2⟩
  ·rw [Nat.pow_succ,Nat.mul_comm]
   exact hbaseN
  ·exact fun k hk=>⟨same _ n1 (m1 k hk).1,by rw [sfr _ n1]; exact (m1 k hk).2⟩
  ·exact fun k hk=>⟨same _ n2 (m2 k hk).1,by rw [sfr _ n2]; exact (m2 k hk).2⟩
  ·exact fun k hk=>⟨same _ n3 (m3 k hk).1,by rw [sfr _ n3]; exact (m3 k hk).2⟩
  ·exact Nat.lt_of_lt_of_le n1 hsz
  ·exact Nat.lt_of_lt_of_le n2 hsz
  ·exact Nat.lt_of_lt_of_le n3 hsz
  ·by_cases e:k=i
   ·subst e; exact newRow
   ·exact (h.rows k (by omega)).kept hk hlt e
end P224
/- The generator's table: the start. -/
namespace P224
open Go Go.RowKit Go.Proofs
set_option maxRecDepth 100000
set_option linter.unusedVariables false
noncomputable def xi6:List (Nat × X):=with1 xi5 pointPrims 2000 76 Try.f76
theorem xi6_ok:XsOk xi6:=with1_ok pointPrims_ok xi5_ok Try.func76 (by kernel_rfl)
def fixS:Fix:=fixG 56 0 [(5,true),(7,true)] []
end P224
/- The generator's table: its contract, from the runs of its rows. -/
namespace P224
open Go Go.RowKit Go.Proofs
set_option maxRecDepth 100000
set_option linter.unusedVariables false
def peekL (T:Tab) (F:Fix) (f:Nat) (l:List Code) (st:St) (ts rs:List Nat):Option Pk :=
 match runL T F f l st with
 | some (o,st')=>bif st'.out.isEmpty then some ⟨o,st'.nx,st'.exs,ts.map st'.tm.get,rs.map fun r=>lookup r st'.mem⟩ else none
 | none=>none
theorem peekL_spec {T:Tab} {F:Fix} {f:Nat} {l:List Code} {st:St} {ts rs:List Nat} {p:Pk} (h:peekL T F f l st ts rs=some p) :
  ∃ st',runL T F f l st=some (p.o,st')∧st'.out=[]∧st'.nx=p.nx∧st'.exs=p.exs∧ts.map st'.tm.get=p.tms∧(rs.map fun r=>lookup r st'.mem)=p.mems:=by
 unfold peekL at h
 split at h
 ·rename_i o st' hr
  obtain ⟨h1,h⟩:=bif_some h
  cases h
  exact ⟨st',hr,List.isEmpty_iff.1 h1,rfl,rfl,rfl,rfl⟩
 ·cases h
def exS:List Ex:=[.fcst 1,.op 4 [.v 6,.c pq],.op 2 (gyB.map .c),.op 4 [.v 4,.c pq],.op 2 (gxB.map .c),.fcst 0,.fcst 1,.fcst 0,.fcst 0]
def nilRow:List A0:=List.replicate 840 (.lit (.pointer none))
theorem startRun:peekL (tabX true pointPrims xi6) fixS 3000 [g0,g1,g2,g3] (headSt [] [] 0 0) [3,4,5] [0,1,2,3,4] =
  some ⟨.normal,9,exS,[some (.one (.ptr 0 0)),some (.one (.ptr 4 0)),some (.one (.lit (.int .i64 ((0:Nat):Int))))],[some nilRow,some (limbs 4),some (limbs 6),some (limbs 8),some [.ptr 1 0,.ptr 2 0,.ptr 3 0]]⟩:=by kernel_rfl
def fixE:Fix:={ nt:=56,nold:=2,wr:=fun _=>false,sep:=fun _ _=>false,dec:=fun _=>none }
theorem exitRun:peekL (tabX true pointPrims xi6) fixE 3000 [gO] (headSt (tmT 56) [] 0 2) [3,4,5] []=some ⟨.exit 0,0,[],[some (.one (.ptr 0 0)),some (.one (.ptr 1 0)),some (.one (.lit (.int .i64 ((56:Nat):Int))))],[]⟩:=by kernel_rfl
theorem endRun:briefR (tabX true pointPrims xi6) Try.f79 [] (run (tabX true pointPrims xi6) fixE 3000 gZ (headSt (tmT 56) [] 0 2))=some ⟨.ret,0,[],[],[.one (.ptr 0 0)],[]⟩:=by kernel_rfl
theorem Inv79.mono {W0 w w':World} {bt:Nat} {P:PtR} {i:Nat} (h:Inv79 W0 w bt P i) (hb:Below w.heap.size w w'):Inv79 W0 w' bt P i:=by
 have hlt:bt<w.heap.size:=by
  obtain ⟨⟨v,hv⟩,_⟩:=h.cells 0 (by decide)
  exact World.block_lt_of_cell? w _ hv
 have hlP:P.b<w.heap.size:=World.block_lt_of_cell? w _ h.pc.1
 obtain ⟨⟨m1,m2,m3⟩,n1,n2,n3⟩:=h.room
 obtain ⟨X,Y,Z,⟨v1,v2,v3,l1,l2,l3⟩,hr⟩:=h.base
 obtain ⟨c1,c2,c3⟩:=h.pc
 have hk:Kept79 w w' bt P 56:=⟨hb.size,fun p hp _ _ _ _=>hb.cell hp,fun k _ _=>hb.cell (p:=⟨bt,k,none⟩) hlt⟩
 have ce:∀ {b o:Nat},b<w.heap.size→w'.cell? ⟨b,o,none⟩=w.cell? ⟨b,o,none⟩:=fun hp=>hb.cell hp
 have fe:∀ {b o:Nat},b<w.heap.size→w'.frozen? ⟨b,o,none⟩=w.frozen? ⟨b,o,none⟩:=fun hp=>hb.frozen hp
 have rm:∀ {b o:Nat},b<w.heap.size→RoomAt w b o→RoomAt w' b o:=fun hp hm k hk=>by
  rw [ce hp,fe hp]
  exact hm k hk
 have el:∀ {b o v:Nat},b<w.heap.size→ElemAt w b o v→ElemAt w' b o v:=fun hp hm k hk=>by
  rw [ce hp]
  exact hm k hk
 exact {
     below:=h.below.trans (hb.mono h.below.size),bt0:=h.bt0,cells:=fun k hk=>by rw [ce hlt,fe hlt]; exact h.cells k hk,pc:=⟨by rw [ce hlP]; exact c1,by rw [ce hlP]; exact c2,by rw [ce hlP]; exact c3⟩
     base:=⟨X,Y,Z,⟨el n1 v1,el n2 v2,el n3 v3,l1,l2,l3⟩,hr⟩,room:=⟨⟨rm n1 m1,rm n2 m2,rm n3 m3⟩,Nat.lt_of_lt_of_le n1 hb.size,Nat.lt_of_lt_of_le n2 hb.size,Nat.lt_of_lt_of_le n3 hb.size⟩
     apart:=h.apart,pnew:=h.pnew,poff:=h.poff,rows:=fun k hk'=>fun j hj=>by
      obtain ⟨q,g1,g2⟩:=h.rows k hk' j hj
      exact ⟨q,by rw [ce hlt]; exact g1,g2.kept hk⟩ }
def betaE (bt:Nat) (P:PtR):Places:=fun r=>if r=0 then (bt,0) else (P.b,P.o)
theorem rel_E {W0 w:World} {bt:Nat} {P:PtR} {i:Nat} (h:Inv79 W0 w bt P i) {a:Act} (ht:TmT a bt P i) (s:Nums):Rel fixE s (betaE bt P) w (headSt (tmT i) [] 0 2) a w:=by
 have hlt:bt<w.heap.size:=by
  obtain ⟨⟨v,hv⟩,_⟩:=h.cells 0 (by decide)
  exact World.block_lt_of_cell? w _ hv
 have hlP:P.b<w.heap.size:=World.block_lt_of_cell? w _ h.pc.1
 refine rel_here ht.size ht.defs (fun e he=>?_) trivial (fun r l hl hw j hj=>by cases hl) (fun r _=>?_) (fun r q _ _ hs=>by cases hs) (fun i b hb=>by cases hb) fun _=>rfl
 ·rcases List.mem_cons.1 he with rfl | he
  ·exact ⟨ht.t3,show 0<2 by decide⟩
  ·rcases List.mem_cons.1 he with rfl | he
   ·exact ⟨ht.t4,show 1<2 by decide⟩
   ·rcases List.mem_cons.1 he with rfl | he
    ·exact ht.t5
    ·cases he
 ·show (if r=0 then (bt,0) else (P.b,P.o)).1<_
  split
  ·exact hlt
  ·exact hlP
theorem exit_row {W0 w:World} {bt:Nat} {P:PtR} (h:Inv79 W0 w bt P 56) {a:Act} (ht:TmT a bt P 56) {Q:Exit→Act→World→Prop} (hn:∀ a' w',TmT a' bt P 56→Inv79 W0 w' bt P 56→Q (.exit 0) a' w'):gO.wp Try.prog Q a w:=by
 obtain ⟨st',hst,hout,hnx,hexs,htm,_⟩:=peekL_spec exitRun
 have hr:=rel_E h ht fun _=>0
 refine runL_reach (l:=[gO]) (tabX_ok pointPrims_ok xi6_ok) hr hst (by rw [hnx,hexs]; trivial) fun β a' w' hag hr'=>?_
 have b0:β 0=betaE bt P 0:=hag 0 (show 0<2 by decide)
 have b1:β 1=betaE bt P 1:=hag 1 (show 1<2 by decide)
 have g3:st'.tm.get 3=some (.one (.ptr 0 0)):=by injection htm
 have g4:st'.tm.get 4=some (.one (.ptr 1 0)):=by injection htm with _ t; injection t
 have g5:st'.tm.get 5=some (.one (.lit (.int .i64 ((56:Nat):Int)))):=by injection htm with _ t; injection t with _ t; injection t
 refine hn a' w' ⟨hr'.size,hr'.defs,?_,?_,?_⟩ (h.mono ?_)
 ·have:=(hr'.tm 3 _ g3).1
  rw [at_,b0] at this
  exact this
 ·have:=(hr'.tm 4 _ g4).1
  rw [at_,b1] at this
  exact this
 ·exact hr'.tm 5 _ g5
 ·have:=hr'.below
  rw [hout] at this
  exact this
theorem loop79 (hrun:∀ i,i<56→RowRun i) {W0:World} {bt:Nat} {P:PtR} {Q:Exit→Act→World→Prop} (hn:∀ a' w',TmT a' bt P 56→Inv79 W0 w' bt P 56→Q (.exit 0) a' w') :
  ∀ (m i:Nat),i+m=56→∀ {a:Act} {w:World},TmT a bt P i→Inv79 W0 w bt P i→Code.rounds Try.prog gO Q (m+1) a w
 | 0,i,hi,a,w,ht,h=>by
  have:i=56:=by omega
  subst this
  show gO.wp Try.prog (Exit.then (Code.rounds Try.prog gO Q 0) Q) a w
  exact exit_row h ht hn
 | m+1,i,hi,a,w,ht,h=>by
  show gO.wp Try.prog (Exit.then (Code.rounds Try.prog gO Q (m+1)) Q) a w
  exact row_step (by omega) (hrun i (by omega)) h ht fun a' w' ht' h'=>loop79 hrun hn m (i+1) (by omega) ht' h'
theorem body79:Try.f79.body=some c79:=by kernel_rfl
theorem ntmps79:Try.f79.ntmps=56:=by kernel_rfl
theorem meets79 (hrun:∀ i,i<56→RowRun i) (w:World) (v:Value):Meets Try.prog 79 #[v] w fun r w'=>∃ bt P,r=ptrTo bt 0∧Inv79 w w' bt P 56:=by
 refine meets_of_calls Try.func79 (by kernel_rfl) (by kernel_rfl) ?_
 refine calls_of_wp Try.func79 body79 ?_
 obtain ⟨st',hst,hout,hnx,hexs,htm,hmm⟩:=peekL_spec startRun
 obtain ⟨s,hH,_⟩:=exists_nums (fun _=>0) (l:=exS) (n:=9) (by decide +kernel) (by decide +kernel)
 obtain ⟨h8,h7,h6,h5,h4,hT⟩:=hH
 have q4:s 4=gxN:=(show s 4=ofBytes gxB from h4).trans gxB_val
 have q5:s 5=1:=(show s 5=if s 4<pq then 1 else 0 from h5).trans (if_pos (by rw [q4]; exact gx_lt))
 have q6:s 6=gyN:=(show s 6=ofBytes gyB from h6).trans gyB_val
 have q7:s 7=1:=(show s 7=if s 6<pq then 1 else 0 from h7).trans (if_pos (by rw [q6]; exact gy_lt))
 have q8:s 8=1:=(show s 8=1 % pq from h8).trans mod_one_pq
 have hr:Rel fixS s (fun _=>(0,0)) w (headSt [] [] 0 0) { tmps:=#[v] ++ Array.replicate (Try.f79.ntmps - #[v].size) undef,defers:=[] } w:=by
  refine rel_here (by rw [ntmps79,Array.size_append,Array.size_replicate]; rfl) rfl (fun e he=>by cases he) trivial (fun r l hl=>by cases hl) (fun r hr=>absurd hr (Nat.not_lt_zero _)) (fun r q hr=>absurd hr (Nat.not_lt_zero _)) (fun i b hb=>?_) fun _=>rfl
  have hm:=findT_mem (show findT i [(5,true),(7,true)]=some b from hb)
  simp only [List.mem_cons,List.not_mem_nil,or_false,Prod.mk.injEq] at hm
  rcases hm with ⟨rfl,rfl⟩|⟨rfl,rfl⟩
  ·exact q5
  ·exact q7
 have reach:=runL_reach (l:=[g0,g1,g2,g3]) (tabX_ok pointPrims_ok xi6_ok) hr hst (by rw [hnx,hexs]; exact ⟨h8,h7,h6,h5,h4,hT⟩)
  (K:=Exit.then ((Code.block 0 (.loop gO)).wp Try.prog (Exit.then (gZ.wp Try.prog (bodyPost Try.prog Try.f79 fun e w''=>∃ r,e=.returned r∧∃ bt P,r=ptrTo bt 0∧Inv79 w w'' bt P 56)) (bodyPost Try.prog Try.f79 fun e w''=>∃ r,e=.returned r∧∃ bt P,r=ptrTo bt 0∧Inv79 w w'' bt P 56)))
   (Exit.then (gZ.wp Try.prog (bodyPost Try.prog Try.f79 fun e w''=>∃ r,e=.returned r∧∃ bt P,r=ptrTo bt 0∧Inv79 w w'' bt P 56)) (bodyPost Try.prog Try.f79 fun e w''=>∃ r,e=.returned r∧∃ bt P,r=ptrTo bt 0∧Inv79 w w'' bt P 56)))
  fun β a' w' hag hr'=>by
   show (Code.block 0 (.loop gO)).wp _ _ a' w'
   have m0:lookup 0 st'.mem=some nilRow:=by injection hmm
   have m1:lookup 1 st'.mem=some (limbs 4):=by injection hmm with _ e; injection e
   have m2:lookup 2 st'.mem=some (limbs 6):=by injection hmm with _ e; injection e with _ e; injection e
   have m3:lookup 3 st'.mem=some (limbs 8):=by injection hmm with _ e; injection e with _ e; injection e with _ e; injection e
   have m4:lookup 4 st'.mem=some [.ptr 1 0,.ptr 2 0,.ptr 3 0]:=by injection hmm with _ e; injection e with _ e; injection e with _ e; injection e with _ e; injection e
   have g3:st'.tm.get 3=some (.one (.ptr 0 0)):=by injection htm
   have g4:st'.tm.get 4=some (.one (.ptr 4 0)):=by injection htm with _ t; injection t
   have g5:st'.tm.get 5=some (.one (.lit (.int .i64 ((0:Nat):Int)))):=by injection htm with _ t; injection t with _ t; injection t
   have l0:=(hr'.mem _ _ m0).1
   have l1:=(hr'.mem _ _ m1).1
   have l2:=(hr'.mem _ _ m2).1
   have l3:=(hr'.mem _ _ m3).1
   have l4:=(hr'.mem _ _ m4).1
   obtain ⟨f0,d0,z0⟩:=hr'.fresh 0 (Nat.zero_le _) l0
   obtain ⟨f1,d1,z1⟩:=hr'.fresh 1 (Nat.zero_le _) l1
   obtain ⟨f2,d2,z2⟩:=hr'.fresh 2 (Nat.zero_le _) l2
   obtain ⟨f3,d3,z3⟩:=hr'.fresh 3 (Nat.zero_le _) l3
   obtain ⟨f4,d4,z4⟩:=hr'.fresh 4 (Nat.zero_le _) l4
   have dd:∀ r q,r<st'.nr→q<st'.nr→r≠q→(β r).1≠(β q).1:=fun r q hr hq hne=>hr'.dist r q (Nat.zero_le _) (Nat.zero_le _) hr hq hne
   obtain ⟨x1,k1⟩:=limbs_el hr' m1
   obtain ⟨x2,k2⟩:=limbs_el hr' m2
   obtain ⟨x3,k3⟩:=limbs_el hr' m3
   have room:∀ {r i:Nat},lookup r st'.mem=some (limbs i)→RoomAt w' (β r).1 (β r).2:=fun {r i} hl k hk=>⟨⟨_,(limbs_el hr' hl).1 k hk⟩,hr'.frz r _ hl (.inl (Nat.zero_le _)) k hk⟩
   have hbl:=hr'.below
   rw [hout] at hbl
   have t3:=(hr'.tm 3 _ g3).1
   rw [at_,z0] at t3
   have hI:Inv79 w w' (β 0).1 ⟨(β 4).1,(β 4).2,(β 1).1,(β 1).2,(β 2).1,(β 2).2,(β 3).1,(β 3).2⟩ 0 :=
    {
     below:=hbl,bt0:=f0
     cells:=fun k hk=>by
      have hj:nilRow[k]?=some (.lit (.pointer none)):=by
       rw [nilRow,List.getElem?_replicate,if_pos hk]
      obtain ⟨v,h1,_⟩:=(hr'.mem _ _ m0).2 k _ hj
      have hf:=hr'.frz 0 _ m0 (.inl (Nat.zero_le _)) k (by rw [nilRow,List.length_replicate]; exact hk)
      rw [at_,z0,Nat.zero_add] at h1 hf
      exact ⟨⟨v,h1⟩,hf⟩
     pc:=⟨(ptr_cell hr' m4 (j:=0) rfl).1,(ptr_cell hr' m4 (j:=1) rfl).1,(ptr_cell hr' m4 (j:=2) rfl).1⟩
     base:=⟨_,_,_,⟨x1,x2,x3,k1,k2,k3⟩,by
      rw [q4,q6,q8,Nat.pow_zero,nsmul_one]
      exact rep_gg⟩
     room:=⟨⟨room m1,room m2,room m3⟩,d1,d2,d3⟩
     apart:=⟨dd 4 1 l4 l1 (by decide),dd 4 2 l4 l2 (by decide),dd 4 3 l4 l3 (by decide),dd 1 2 l1 l2 (by decide),dd 1 3 l1 l3 (by decide),dd 2 3 l2 l3 (by decide)⟩
     pnew:=⟨f4,f1,f2,f3⟩
     poff:=⟨dd 4 0 l4 l0 (by decide),dd 1 0 l1 l0 (by decide),dd 2 0 l2 l0 (by decide),dd 3 0 l3 l0 (by decide)⟩
     rows:=fun k hk=>absurd hk (Nat.not_lt_zero _) }
   refine wp_block (wp_loop_rounds 57 ?_)
   refine loop79 hrun (fun a2 w2 ht h2=>?_) 56 0 rfl ⟨hr'.size,hr'.defs,t3,(hr'.tm 4 _ g4).1,hr'.tm 5 _ g5⟩ hI
   show gZ.wp Try.prog (bodyPost Try.prog Try.f79 _) a2 w2
   obtain ⟨st2,hrun2,n1,n2,n3,hres,_⟩:=briefR_spec endRun
   refine run_wp (tabX_ok pointPrims_ok xi6_ok) (rel_E h2 ht fun _=>0) hrun2 (by rw [n1,n2]; trivial) fun β3 a3 w3 hag3 hr3=>?_
   obtain ⟨v3,hv1,hv2⟩:=results_run (tabX_ok pointPrims_ok xi6_ok) hr3 hres
   have hb3:=hr3.below
   rw [n3] at hb3
   have e0:β3 0=betaE (β 0).1 ⟨(β 4).1,(β 4).2,(β 1).1,(β 1).2,(β 2).1,(β 2).2,(β 3).1,(β 3).2⟩ 0:=hag3 0 (show 0<2 by decide)
   have hv3:v3=.pointer (some (at_ β3 0 0)):=hv2.1
   rw [at_,e0] at hv3
   exact ⟨hr3.defs,v3,hv1,v3,rfl,_,_,hv3,h2.mono hb3⟩
 rw [shape79]
 refine wp_seq (reach _ fun a1 w1 r1=>?_)
 show (Code.seq _ _).wp _ _ a1 w1
 refine wp_seq (r1 _ fun a2 w2 r2=>?_)
 show (Code.seq _ _).wp _ _ a2 w2
 refine wp_seq (r2 _ fun a3 w3 r3=>?_)
 show (Code.seq _ _).wp _ _ a3 w3
 exact wp_seq (wp_seq r3)
end P224
