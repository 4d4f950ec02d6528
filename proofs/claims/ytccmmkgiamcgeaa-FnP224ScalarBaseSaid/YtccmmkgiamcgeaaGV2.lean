/- Stores over stores: the last ones count. -/
import Derived.Test.YtccmmkgiamcgeaaGP1
import Derived.Test.YtccmmkgiamcgeaaGV1
set_option linter.all false
namespace P224
open Go Go.RowKit Go.Proofs
set_option maxRecDepth 100000
set_option linter.unusedVariables false
theorem setCell_twice (w:World) (b o:Nat) (u v:Value):(w.setCell ⟨b,o,none⟩ u).setCell ⟨b,o,none⟩ v=w.setCell ⟨b,o,none⟩ v:=by
 unfold World.setCell
 simp only
 congr 1
 apply Array.ext
 ·simp
 ·intro k h1 h2
  simp only [Array.getElem_modify]
  by_cases e1:b=k
  ·simp only [e1,if_true]
   have hk:k<w.heap.size:=by simpa using h2
   generalize w.heap[k]'hk=ob
   cases ob <;> simp
  ·simp only [e1,if_false]
theorem setCell_commB (w:World) {b c:Nat} (h:b≠c) (i j:Nat) (x y:Value):(w.setCell ⟨b,i,none⟩ x).setCell ⟨c,j,none⟩ y=(w.setCell ⟨c,j,none⟩ y).setCell ⟨b,i,none⟩ x:=by
 unfold World.setCell
 simp only
 congr 1
 apply Array.ext
 ·simp
 ·intro k h1 h2
  simp only [Array.getElem_modify]
  by_cases e1:b=k <;> by_cases e2:c=k <;> simp_all
theorem setCell_pass (b o:Nat) (v:Value):∀ (us:List Value) (o':Nat) (w:World),o<o'→(w.setCells b o' us).setCell ⟨b,o,none⟩ v=(w.setCell ⟨b,o,none⟩ v).setCells b o' us
 | [],_,_,_=>rfl
 | u :: us,o',w,h=>by
  show ((w.setCell ⟨b,o',none⟩ u).setCells b (o'+1) us).setCell ⟨b,o,none⟩ v=((w.setCell ⟨b,o,none⟩ v).setCell ⟨b,o',none⟩ u).setCells b (o'+1) us
  rw [setCell_pass b o v us (o'+1) _ (by omega),setCell_comm w b (by omega) u v]
theorem setCells_over (b:Nat):∀ (vs us:List Value) (o:Nat) (w:World),vs.length=us.length→(w.setCells b o us).setCells b o vs=w.setCells b o vs
 | [],[],_,_,_=>rfl
 | v :: vs,u :: us,o,w,h=>by
  show (((w.setCell ⟨b,o,none⟩ u).setCells b (o+1) us).setCell ⟨b,o,none⟩ v).setCells b (o+1) vs=(w.setCell ⟨b,o,none⟩ v).setCells b (o+1) vs
  rw [setCell_pass b o v us (o+1) _ (by omega),setCells_over b vs us (o+1) _ (by simpa using h),setCell_twice]
theorem setCell_passB {b c:Nat} (hne:b≠c) (o:Nat) (v:Value):∀ (us:List Value) (o':Nat) (w:World),(w.setCells c o' us).setCell ⟨b,o,none⟩ v=(w.setCell ⟨b,o,none⟩ v).setCells c o' us
 | [],_,_=>rfl
 | u :: us,o',w=>by
  show ((w.setCell ⟨c,o',none⟩ u).setCells c (o'+1) us).setCell ⟨b,o,none⟩ v=((w.setCell ⟨b,o,none⟩ v).setCell ⟨c,o',none⟩ u).setCells c (o'+1) us
  rw [setCell_passB hne o v us (o'+1) _,setCell_commB w (Ne.symm hne)]
theorem setCells_passB {b c:Nat} (hne:b≠c):∀ (vs us:List Value) (o o':Nat) (w:World),(w.setCells c o' us).setCells b o vs=(w.setCells b o vs).setCells c o' us
 | [],_,_,_,_=>rfl
 | v :: vs,us,o,o',w=>by
  show ((w.setCells c o' us).setCell ⟨b,o,none⟩ v).setCells b (o+1) vs=((w.setCell ⟨b,o,none⟩ v).setCells b (o+1) vs).setCells c o' us
  rw [setCell_passB hne o v us o' w,setCells_passB hne vs us (o+1) o' _]
theorem words_len (v:Nat):(words v).length=4:=rfl
theorem PtR.set_set (p:PtR) (h:p.apart) (w:World) (a b c x y z:Nat):p.set (p.set w a b c) x y z=p.set w x y z:=by
 obtain ⟨_,_,_,h1,h2,h3⟩:=h
 unfold PtR.set
 rw [setCells_passB h2,setCells_passB h1,setCells_over p.bx _ _ _ _ (by rw [words_len,words_len]),setCells_passB h3,setCells_over p.b2 _ _ _ _ (by rw [words_len,words_len]),setCells_over p.bz _ _ _ _ (by rw [words_len,words_len])]
end P224
/- The table's Select: what it does. -/
namespace P224
open Go Go.RowKit Go.Proofs
set_option maxRecDepth 100000
set_option linter.unusedVariables false
theorem calls_briefL {T:Tab} (hT:T.Ok Try.prog) {g:FuncId} {fn:Func} {F:Fix} {fuel nx0:Nat} {args:List AV} {mem:List (Nat × List A0)} {rs:List Nat} {b:BriefR}
  (hb:briefR T fn rs (runF T F fuel fn (startSt args mem nx0 F.nold))=some b) (hf:Try.prog.funcs[g]?=some fn) (hnt:fn.ntmps=F.nt) (ho:b.o.ends=true)
  (hsc:inScope b.nx b.exs=true) (hle:b.exs.length≤b.nx) (hn0:b.nx - b.exs.length=nx0) (ha1:args.length≤F.nt) (ha2:args.length<4095)
  (s0:Nums) (β:Places) {w:World} {vals:List Value} {R:Ending→World→Prop}
  (hargs:∀ s:Nums,(∀ i,i<nx0→s i=s0 i)→ArgsOk s β F.nold args vals)
  (hmem:∀ s:Nums,(∀ i,i<nx0→s i=s0 i)→∀ r l,lookup r mem=some l→r<F.nold∧RowOk s β F.nold r w 0 l)
  (hfrz:∀ r l,lookup r mem=some l→F.wr r=true→∀ j,j<l.length→w.frozen? (at_ β r j)=false)
  (hold:∀ r,r<F.nold→(β r).1<w.heap.size) (hsep:∀ r q,r<F.nold→q<F.nold→F.sep r q=true→(β r).1≠(β q).1)
  (hdec:∀ s:Nums,(∀ i,i<nx0→s i=s0 i)→Holds s b.nx b.exs→Dec F s)
  (hnp:∀ r,F.np r=none)
  (fin:∀ s:Nums,(∀ i,i<nx0→s i=s0 i)→Holds s b.nx b.exs→∀ (st':St) (β':Places) (a':Act) (w':World) (v:Value),(resAV b.res).rep s β' st'.nr v→(rs.map fun r=>lookup r st'.mem)=b.mem→Agree β β' F.nold→Rel F s β' w st' a' w' →
   Below w.heap.size (applyOut s β' w b.out) w'→R (.returned v) w'):Calls Try.prog g vals.toArray w R:=by
 obtain ⟨st',hrun,hnx,hexs,hout,hres,hmm⟩:=briefR_spec hb
 obtain ⟨c,hc,hrun⟩:=calls_of_runF hrun
 obtain ⟨s,hH,hs0⟩:=exists_nums s0 hle hsc
 rw [hn0] at hs0
 obtain ⟨hlen,hget⟩:=(hargs s hs0).get
 have hstart:Rel F s β w (startSt args mem nx0 F.nold) { tmps:=vals.toArray ++ Array.replicate (fn.ntmps - vals.toArray.size) undef,defers:=[] } w :=
  rel_start hlen hnt ha1 ha2 hget (fun r l hl=>by
   obtain ⟨h1,h2⟩:=hmem s hs0 r l hl
   exact ⟨h1,fun j x hx=>by have:=h2.get j x hx; rwa [Nat.zero_add] at this⟩) hfrz hold hsep (hdec s hs0 hH) (fun r i j h=>by rw [hnp r] at h; cases h)
 refine calls_of_wp hf hc (run_wp hT hstart hrun (by rw [hnx,hexs]; exact hH) fun β' a' w' hag hr=>?_)
 have hbe:=hr.below
 rw [hout] at hbe
 obtain ⟨v,hv1,hv2⟩:=results_run hT hr hres
 have:=fin s hs0 hH st' β' a' w' v hv2 hmm hag hr hbe
 cases hoo:b.o with
 | normal=>exact ⟨hr.defs,v,hv1,this⟩
 | ret=>exact ⟨hr.defs,v,hv1,this⟩
 | exit i=>rw [hoo] at ho; cases ho
def row80 (r:Nat):List A0 :=
 if r=0 then ptCells 0 else if r<4 then limbs (44+r) else if r=4 then (List.range 15).map fun i=>.ptr (5+4*i) 0
 else if (r - 5) % 4=0 then ptCells r else limbs (3*((r - 5) / 4)+((r - 5) % 4 - 1))
theorem mem80_rows:mem80=(List.range 65).map fun r=>(r,row80 r):=by kernel_rfl
theorem lookup_of {m:List (Nat × List A0)} {r:Nat} {l:List A0} (h:lookup r m=some l):(r,l) ∈ m:=by
 induction m with
 | nil=>cases h
 | cons e m ih =>
  obtain ⟨q,k⟩:=e
  rw [lookup] at h
  cases hq:(q == r) with
  | true =>
   have:=beq_iff_eq.1 hq
   subst this
   rw [hq,cond_true] at h
   cases h
   exact List.mem_cons_self
  | false =>
   rw [hq,cond_false] at h
   exact List.mem_cons_of_mem _ (ih h)
theorem lookup_80 {r:Nat} {l:List A0} (h:lookup r mem80=some l):r<65∧l=row80 r:=by
 have:=lookup_of h
 rw [mem80_rows] at this
 obtain ⟨q,hq,e⟩:=List.mem_map.1 this
 cases e
 exact ⟨List.mem_range.1 hq,rfl⟩
theorem out80_apply {s:Nums} {β:Places} {w:World} {p:PtR} (hp:p.apart) (h1:β 1=(p.bx,p.ox)) (h2:β 2=(p.b2,p.oy)) (h3:β 3=(p.bz,p.oz)):∀ i,applyOut s β w (out80 i)=if i=0 then p.set w (s 48) (s 50) (s 51) else p.set w (s (49+3*i)) (s (50+3*i)) (s (51+3*i))
 | 0=>by rw [if_pos rfl]; exact outPt_apply h1 h2 h3
 | i+1=>by
  rw [if_neg (by omega)]
  have ih:=out80_apply (s:=s) (w:=w) hp h1 h2 h3 i
  have app:∀ l m:List (Nat × Nat × A0),applyOut s β w (l ++ m)=applyOut s β (applyOut s β w m) l:=by
   intro l m
   induction l with
   | nil=>rfl
   | cons e l ihl =>
    obtain ⟨r,o,x⟩:=e
    show (applyOut s β w (l ++ m)).setCell _ _=(applyOut s β (applyOut s β w m) l).setCell _ _
    rw [ihl]
  rw [out80,app,outPt_apply h1 h2 h3,ih]
  have e:49+3*(i+1)=52+3*i∧50+3*(i+1)=53+3*i∧51+3*(i+1)=54+3*i:=by omega
  rw [e.1,e.2.1,e.2.2]
  split
  ·exact p.set_set hp _ _ _ _ _ _ _
  ·exact p.set_set hp _ _ _ _ _ _ _
end P224
/- The table's Select: its contract. -/
namespace P224
open Go Go.RowKit Go.Proofs
set_option maxRecDepth 100000
set_option linter.unusedVariables false
theorem run80 {n:Nat} (hn:n<16):briefR (tabX true pointPrims x97s) Try.f80 [] (runF (tabX true pointPrims x97s) fix80 3000 Try.f80 (st80 n))=some (br80 n):=by
 have h:n=0∨n=1∨n=2∨n=3∨n=4∨n=5∨n=6∨n=7∨n=8∨n=9∨n=10∨n=11∨n=12∨n=13∨n=14∨n=15:=by omega
 rcases h with rfl | rfl | rfl | rfl | rfl | rfl | rfl | rfl | rfl | rfl | rfl | rfl | rfl | rfl | rfl | rfl
 ·exact run80_0
 ·exact run80_1
 ·exact run80_2
 ·exact run80_3
 ·exact run80_4
 ·exact run80_5
 ·exact run80_6
 ·exact run80_7
 ·exact run80_8
 ·exact run80_9
 ·exact run80_10
 ·exact run80_11
 ·exact run80_12
 ·exact run80_13
 ·exact run80_14
 ·exact run80_15
structure TabAt (w:World) (bt ot:Nat) (T:Nat→PtR) (X Y Z:Nat→Nat):Prop where
 ptr:∀ i,i<15→w.cell? ⟨bt,ot+i,none⟩=some (ptrTo (T i).b (T i).o)
 cells:∀ i,i<15→(T i).cells w
 val:∀ i,i<15→(T i).val w (X i) (Y i) (Z i)
def OffTab (bt:Nat) (T:Nat→PtR) (q:Nat):Prop:=q≠bt∧∀ i,i<15→q≠(T i).b∧q≠(T i).bx∧q≠(T i).b2∧q≠(T i).bz
def place80 (p:PtR) (bt ot:Nat) (T:Nat→PtR):Places:=fun r=>if r<4 then ptPlace p r else if r=4 then (bt,ot) else if r=65 then (p.b,p.o) else ptPlace (T ((r - 5) / 4)) ((r - 5) % 4)
theorem place80_lo {p:PtR} {bt ot:Nat} {T:Nat→PtR} {r:Nat} (h:r<4):place80 p bt ot T r=ptPlace p r:=if_pos h
theorem place80_hi {p:PtR} {bt ot:Nat} {T:Nat→PtR} {i k:Nat} (hk:k<4) (hi:i<15):place80 p bt ot T (5+4*i+k)=ptPlace (T i) k:=by
 unfold place80
 rw [if_neg (by omega),if_neg (by omega),if_neg (by omega),show (5+4*i+k - 5) / 4=i by omega,show (5+4*i+k - 5) % 4=k by omega]
theorem meets80 (w:World) {n:Nat} (hn:n<16) (p:PtR) (x0 y0 z0:Nat) (bt ot:Nat) (T:Nat→PtR) (X Y Z:Nat→Nat) (hc:p.cells w) (hv:p.val w x0 y0 z0) (hrm:p.room w) (hap:p.apart) (ht:TabAt w bt ot T X Y Z)
  (o1:OffTab bt T p.bx) (o2:OffTab bt T p.b2) (o3:OffTab bt T p.bz) :
  Meets Try.prog 80 #[ptrTo bt ot,ptrTo p.b p.o,.int .u8 (n:Int)] w fun v w'=>Below w.heap.size (p.set w (tb n 0 X) (tb n 1 Y) (tb n 0 Z)) w':=by
 refine meets_of_calls Try.func80 (by kernel_rfl) (by kernel_rfl) ?_
 let β:Places:=place80 p bt ot T
 let s0:Nums:=fun i=>if i<45 then (if i % 3=0 then X (i / 3) else if i % 3=1 then Y (i / 3) else Z (i / 3)) else if i=45 then x0 else if i=46 then y0 else z0
 obtain ⟨⟨r1,r2,r3⟩,l1,l2,l3⟩:=hrm
 have hvp:=hv
 obtain ⟨v1,v2,v3,u1,u2,u3⟩:=hv
 have hbt:bt<w.heap.size:=World.block_lt_of_cell? w _ (ht.ptr 0 (by decide))
 have hT:∀ i,i<15→∀ k,(ptPlace (T i) k).1<w.heap.size:=fun i hi k=>by
  obtain ⟨t1,t2,t3,_,_,_⟩:=ht.val i hi
  exact ptPlace_lt (ht.cells i hi) (World.block_lt_of_cell? w _ (t1 0 (by decide))) (World.block_lt_of_cell? w _ (t2 0 (by decide))) (World.block_lt_of_cell? w _ (t3 0 (by decide))) k
 have split:∀ r,r<66→r<4∨r=4∨(∃ i k,k<4∧i<15∧r=5+4*i+k)∨r=65:=fun r hr=>by
  by_cases h1:r<4
  ·exact .inl h1
  ·by_cases h2:r=4
   ·exact .inr (.inl h2)
   ·by_cases h3:r=65
    ·exact .inr (.inr (.inr h3))
    ·exact .inr (.inr (.inl ⟨(r - 5) / 4,(r - 5) % 4,by omega,by omega,by omega⟩))
 have hpb:p.b<w.heap.size:=World.block_lt_of_cell? w _ hc.1
 have hold:∀ r,r<66→(β r).1<w.heap.size:=fun r hr=>by
  rcases split r hr with h | rfl | ⟨i,k,hk,hi,rfl⟩ | rfl
  ·show (place80 p bt ot T r).1<_
   rw [place80_lo h]
   exact ptPlace_lt hc l1 l2 l3 r
  ·exact hbt
  ·show (place80 p bt ot T _).1<_
   rw [place80_hi hk hi]
   exact hT i hi k
  ·exact hpb
 have off:∀ q,OffTab bt T q→q≠p.b→∀ r,4≤r→r<66→q≠(β r).1:=fun q ho hb r h4 hr=>by
  rcases split r hr with h | rfl | ⟨i,k,hk,hi,rfl⟩ | rfl
  ·omega
  ·exact ho.1
  ·show q≠(place80 p bt ot T _).1
   rw [place80_hi hk hi]
   obtain ⟨a1,a2,a3,a4⟩:=ho.2 i hi
   match k,hk with
   | 0,_=>exact a1
   | 1,_=>exact a2
   | 2,_=>exact a3
   | 3,_=>exact a4
  ·exact hb
 obtain ⟨n1,n2,n3,n4,n5,n6⟩:=hap
 have key:∀ r q,in13 r=true→q<66→r≠q→(β r).1≠(β q).1:=fun r q hr hq hne=>by
  simp only [in13,Bool.and_eq_true,decide_eq_true_eq] at hr
  have hr':r=1∨r=2∨r=3:=by omega
  by_cases h4:4≤q
  ·rcases hr' with rfl | rfl | rfl
   ·exact off p.bx o1 (Ne.symm n1) q h4 hq
   ·exact off p.b2 o2 (Ne.symm n2) q h4 hq
   ·exact off p.bz o3 (Ne.symm n3) q h4 hq
  ·have hq':q=0∨q=1∨q=2∨q=3:=by omega
   rcases hr' with rfl | rfl | rfl <;> rcases hq' with rfl | rfl | rfl | rfl
   ·exact Ne.symm n1
   ·exact absurd rfl hne
   ·exact n4
   ·exact n5
   ·exact Ne.symm n2
   ·exact Ne.symm n4
   ·exact absurd rfl hne
   ·exact n6
   ·exact Ne.symm n3
   ·exact Ne.symm n5
   ·exact Ne.symm n6
   ·exact absurd rfl hne
 have row:∀ s:Nums,(∀ i,i<48→s i=s0 i)→∀ r,r<65→RowOk s β 66 r w 0 (row80 r):=fun s hs r hr=>by
  have sX:∀ i,i<15→s (3*i)=X i∧s (3*i+1)=Y i∧s (3*i+2)=Z i:=fun i hi=>by
   refine ⟨(hs _ (by omega)).trans ?_,(hs _ (by omega)).trans ?_,(hs _ (by omega)).trans ?_⟩
   ·show (if 3*i<45 then (if 3*i % 3=0 then X (3*i / 3) else if 3*i % 3=1 then Y (3*i / 3) else Z (3*i / 3)) else _)=_
    rw [if_pos (by omega),if_pos (by omega),show 3*i / 3=i by omega]
   ·show (if 3*i+1<45 then (if (3*i+1) % 3=0 then X ((3*i+1) / 3) else if (3*i+1) % 3=1 then Y ((3*i+1) / 3) else Z ((3*i+1) / 3)) else _)=_
    rw [if_pos (by omega),if_neg (by omega),if_pos (by omega),show (3*i+1) / 3=i by omega]
   ·show (if 3*i+2<45 then (if (3*i+2) % 3=0 then X ((3*i+2) / 3) else if (3*i+2) % 3=1 then Y ((3*i+2) / 3) else Z ((3*i+2) / 3)) else _)=_
    rw [if_pos (by omega),if_neg (by omega),if_neg (by omega),show (3*i+2) / 3=i by omega]
  rcases split r (by omega) with h | rfl | ⟨i,k,hk,hi,rfl⟩ | rfl
  ·have h':r=0∨r=1∨r=2∨r=3:=by omega
   rcases h' with rfl | rfl | rfl | rfl
   ·exact pt_row rfl rfl rfl rfl hc (by decide)
   ·exact limb_row rfl v1 (hs 45 (by decide)) u1
   ·exact limb_row rfl v2 (hs 46 (by decide)) u2
   ·exact limb_row rfl v3 (hs 47 (by decide)) u3
  ·refine row_of fun j z hz=>?_
   have hz':((List.range 15).map fun i=>A0.ptr (5+4*i) 0)[j]?=some z:=hz
   rw [List.getElem?_map] at hz'
   cases hj:(List.range 15)[j]? with
   | none=>rw [hj] at hz'; cases hz'
   | some m =>
    rw [hj] at hz'
    cases hz'
    obtain ⟨hjl,hjm⟩:=List.getElem?_eq_some_iff.1 hj
    simp at hjl hjm
    subst hjm
    refine ⟨_,?_,rfl,by omega⟩
    rw [Nat.zero_add,at_,at_]
    show w.cell? ⟨bt,ot+j,none⟩=some (.pointer (some ⟨(place80 p bt ot T (5+4*j+0)).1,(place80 p bt ot T (5+4*j+0)).2+0,none⟩))
    rw [place80_hi (by decide) hjl]
    exact ht.ptr j hjl
  ·have e:row80 (5+4*i+k)=if k=0 then ptCells (5+4*i+k) else limbs (3*i+(k - 1)):=by
    unfold row80
    rw [if_neg (by omega),if_neg (by omega),if_neg (by omega),show (5+4*i+k - 5) % 4=k by omega,show (5+4*i+k - 5) / 4=i by omega]
   have pl:∀ m,m<4→β (5+4*i+m)=ptPlace (T i) m:=fun m hm=>place80_hi hm hi
   obtain ⟨t1,t2,t3,t4,t5,t6⟩:=ht.val i hi
   obtain ⟨e1,e2,e3⟩:=sX i hi
   rw [e]
   match k,hk with
   | 0,_=>exact pt_row (pl 0 (by decide)) (pl 1 (by decide)) (pl 2 (by decide)) (pl 3 (by decide)) (ht.cells i hi) (by omega)
   | 1,_=>exact limb_row (pl 1 (by decide)) t1 e1 t4
   | 2,_=>exact limb_row (pl 2 (by decide)) t2 e2 t5
   | 3,_=>exact limb_row (pl 3 (by decide)) t3 e3 t6
  ·omega
 refine calls_briefL (F:=fix80) (tabX_ok pointPrims_ok x97s_ok) (run80 hn) Try.func80 Try.ntmps80 rfl ?_ ?_ ?_ (show 3≤31 by decide) (show 3<4095 by decide) s0 β
  (vals:=[ptrTo bt ot,ptrTo p.b p.o,.int .u8 (n:Int)]) (fun s hs=>⟨⟨rfl,show 4<66 by decide⟩,⟨rfl,show 0<66 by decide⟩,rfl,trivial⟩) (fun s hs r l hl=>?_) (fun r l hl hr j hj=>?_) hold (fun r q hr hq hs=>?_) (fun s hs hH i b h=>by cases h) (fun r=>rfl) ?_
 ·exact (show inScope 97 (ex80 n 15)=true from rfl)
 ·exact (show (ex80 n 15).length≤97 from by rw [show (ex80 n 15).length=49 from rfl]; decide)
 ·exact (show 97 - (ex80 n 15).length=48 from by rw [show (ex80 n 15).length=49 from rfl])
 ·obtain ⟨h1,rfl⟩:=lookup_80 hl
  exact ⟨show r<66 by omega,row s hs r h1⟩
 ·obtain ⟨h1,rfl⟩:=lookup_80 hl
  have hr':in13 r=true:=hr
  simp only [in13,Bool.and_eq_true,decide_eq_true_eq] at hr'
  have h':r=1∨r=2∨r=3:=by omega
  rcases h' with rfl | rfl | rfl
  ·exact (r1 j hj).2
  ·exact (r2 j hj).2
  ·exact (r3 j hj).2
 ·have hs':((in13 r || in13 q) && decide (r≠q))=true:=hs
  simp only [Bool.and_eq_true,Bool.or_eq_true,decide_eq_true_eq] at hs'
  obtain ⟨h1 | h1,h2⟩:=hs'
  ·exact key r q h1 hq h2
  ·exact (key q r h1 hr (Ne.symm h2)).symm
 ·intro s hs hH st' β' a' w' v hv hm hag hr hbe
  have law:=law80 (s:=s) (n:=n) 15 (Nat.le_refl _) hH
  rw [if_neg (by decide)] at law
  obtain ⟨e1,e2,e3⟩:=law
  have g1:β' 1=(p.bx,p.ox):=hag 1 (show 1<66 by decide)
  have g2:β' 2=(p.b2,p.oy):=hag 2 (show 2<66 by decide)
  have g3:β' 3=(p.bz,p.oz):=hag 3 (show 3<66 by decide)
  have ho:=out80_apply (s:=s) (w:=w) (β:=β') ⟨n1,n2,n3,n4,n5,n6⟩ g1 g2 g3 15
  rw [if_neg (by decide)] at ho
  have hbe':Below w.heap.size (applyOut s β' w (out80 15)) w':=hbe
  rw [ho,e1,e2,e3] at hbe'
  have tbs:∀ (f:Nat→Nat) (d c:Nat),(∀ i,i<15→s (3*i+c)=f i)→(if 1≤n∧n≤15 then s (3*(n - 1)+c) else d)=tb n d f:=fun f d c hf=>by
   unfold tb
   by_cases h0:n=0
   ·rw [if_neg (by omega),if_pos h0]
   ·rw [if_pos (by omega),if_neg h0,hf (n - 1) (by omega)]
  have sv:∀ i,i<15→s (3*i+0)=X i∧s (3*i+1)=Y i∧s (3*i+2)=Z i:=fun i hi=>by
   refine ⟨(hs _ (by omega)).trans ?_,(hs _ (by omega)).trans ?_,(hs _ (by omega)).trans ?_⟩
   ·show (if 3*i+0<45 then (if (3*i+0) % 3=0 then X ((3*i+0) / 3) else if (3*i+0) % 3=1 then Y ((3*i+0) / 3) else Z ((3*i+0) / 3)) else _)=_
    rw [if_pos (by omega),if_pos (by omega),show (3*i+0) / 3=i by omega]
   ·show (if 3*i+1<45 then (if (3*i+1) % 3=0 then X ((3*i+1) / 3) else if (3*i+1) % 3=1 then Y ((3*i+1) / 3) else Z ((3*i+1) / 3)) else _)=_
    rw [if_pos (by omega),if_neg (by omega),if_pos (by omega),show (3*i+1) / 3=i by omega]
   ·show (if 3*i+2<45 then (if (3*i+2) % 3=0 then X ((3*i+2) / 3) else if (3*i+2) % 3=1 then Y ((3*i+2) / 3) else Z ((3*i+2) / 3)) else _)=_
    rw [if_pos (by omega),if_neg (by omega),if_neg (by omega),show (3*i+2) / 3=i by omega]
  have tx:=tbs X 0 0 fun i hi=>(sv i hi).1
  have ty:=tbs Y 1 1 fun i hi=>(sv i hi).2.1
  have tz:=tbs Z 0 2 fun i hi=>(sv i hi).2.2
  rw [Nat.add_zero] at tx
  rw [tx,ty,tz] at hbe'
  exact ⟨v,rfl,hbe'⟩
end P224
/- The table's Select, as a call that the executor knows. -/
namespace P224
open Go Go.RowKit Go.Proofs
set_option maxRecDepth 100000
set_option linter.unusedVariables false
structure TP where
 r:Nat
 o:Nat
 q:PtS
 x:Nat
 y:Nat
 z:Nat
def tpsOf (m:List (Nat × List A0)):List A0→Option (List TP)
 | []=>some []
 | .ptr r o :: l=>match ptAt m r o with
  | some q=>match ptNum m q with
   | some (i,j,k)=>match tpsOf m l with
    | some L=>some (⟨r,o,q,i,j,k⟩ :: L)
    | none=>none
   | none=>none
  | none=>none
 | _ :: _=>none
def offT (F:Fix) (nr t q:Nat) (L:List TP):Bool:=apart2 F nr q t && L.all fun e=>apart2 F nr q e.r && apart2 F nr q e.q.rx && apart2 F nr q e.q.ry && apart2 F nr q e.q.rz
def x80:X:=fun F st args=>match args with
 | [.one (.ptr t ot),.one (.ptr r o),.one a]=>match a.word .u8,cellsAt st.mem t ot 15,ptAt st.mem r o with
  | some nw,some cells,some p=>match tpsOf st.mem cells,ptNum st.mem p with
   | some L,some _=>bif F.dec st.nx == some true && offT F st.nr t p.rx L && offT F st.nr t p.ry L && offT F st.nr t p.rz L then
     (match ptWrite F { st with nx:=st.nx+1,exs:=.op 4 [nw,.c 16] :: st.exs } r p (.op 29 (nw :: .c 0 :: L.map fun e=>.v e.x)) (.op 29 (nw :: .c 1 :: L.map fun e=>.v e.y)) (.op 29 (nw :: .c 0 :: L.map fun e=>.v e.z)) with
     | some st'=>some (.one .any,st')
     | none=>none) else none
   | _,_=>none
  | _,_,_=>none
 | _=>none
theorem tpsOf_len {m:List (Nat × List A0)}:∀ {l:List A0} {L:List TP},tpsOf m l=some L→L.length=l.length
 | [],L,h=>by cases h; rfl
 | .ptr r o :: l,L,h=>by
  rw [tpsOf] at h
  split at h
  ·split at h
   ·split at h
    ·rename_i hL
     cases h
     rw [List.length_cons,List.length_cons,tpsOf_len hL]
    ·cases h
   ·cases h
  ·cases h
theorem tpsOf_get {m:List (Nat × List A0)}:∀ {l:List A0} {L:List TP},tpsOf m l=some L→∀ (i:Nat) (e:TP),L[i]?=some e→l[i]?=some (.ptr e.r e.o)∧ptAt m e.r e.o=some e.q∧ptNum m e.q=some (e.x,e.y,e.z)
 | [],L,h,i,e,he=>by cases h; simp at he
 | .ptr r o :: l,L,h,i,e,he=>by
  rw [tpsOf] at h
  split at h
  ·rename_i hq
   split at h
   ·rename_i hn
    split at h
    ·rename_i hL
     cases h
     match i,he with
     | 0,he=>cases he; exact ⟨rfl,hq,hn⟩
     | i+1,he=>exact tpsOf_get hL i e he
    ·cases h
   ·cases h
  ·cases h
def TP.none:TP:=⟨0,0,⟨0,0,0,0,0,0⟩,0,0,0⟩
theorem op29 (n d:Nat) (l:List Nat):opVal 29 (n :: d :: l)=tb n d fun i=>l.getD i 0:=by
 show (d :: l).getD n 0=_
 unfold tb
 cases n with
 | zero=>rfl
 | succ n=>rw [if_neg (by omega)]; rfl
theorem x80_ok:XOk Try.prog 80 x80:=by
 refine ⟨fun {F st st' args av} h=>?_,fun {s β F w0 st st' a w args vs av} hr h hargs hH=>?_⟩
 ·unfold x80 at h
  split at h
  ·split at h
   ·split at h
    ·obtain ⟨_,h⟩:=bif_some h
     split at h
     ·rename_i hw
      cases h
      obtain ⟨a1,a2,a3⟩:=ptWrite_nr hw
      exact ⟨⟨[_,_,_,_],a3,a2⟩,by rw [a1]; exact Nat.le_refl _⟩
     ·cases h
    ·cases h
   ·cases h
  ·cases h
 ·unfold x80 at h
  split at h
  ·rename_i t ot r o na
   split at h
   ·rename_i nw cells p hw hcells hp
    split at h
    ·rename_i L pn hL hpn
     obtain ⟨hd,h⟩:=bif_some h
     simp only [Bool.and_eq_true,beq_iff_eq] at hd
     obtain ⟨⟨⟨hd,hx⟩,hy⟩,hz⟩:=hd
     split at h
     ·rename_i st1 hwr
      cases h
      obtain ⟨u,v,q,rfl,hu,hv,hq⟩:=avs3 hargs
      obtain ⟨rfl,_⟩:=hu
      obtain ⟨rfl,_⟩:=hv
      obtain ⟨hq1,hq2⟩:=word_rep hw hq
      obtain ⟨b1,b2,b3⟩:=ptWrite_nr hwr
      rw [b2,b3] at hH
      obtain ⟨e3,e2,e1,e0,_⟩:=hH
      have d0:=hr.dec _ _ hd
      have e0':s st.nx=if nw.val s<16 then 1 else 0:=e0
      rw [d0] at e0'
      have hn:nw.val s<16:=by
       by_cases hh:nw.val s<16
       ·exact hh
       ·rw [if_neg hh] at e0'; cases e0'
      have hlen:=tpsOf_len hL
      obtain ⟨kk,hk,hlk,_,hj⟩:=cellsAt_ok (nr:=0) hcells
      have hcl15:cells.length=15:=by
       unfold cellsAt at hcells
       split at hcells
       ·obtain ⟨hb,hcells⟩:=bif_some hcells
        cases hcells
        have:=of_decide_eq_true hb
        rw [List.length_take,List.length_drop]
        omega
       ·cases hcells
      let T:Nat→PtR:=fun i=>ptR β (L.getD i .none).r (L.getD i .none).o (L.getD i .none).q
      let X:Nat→Nat:=fun i=>s (L.getD i .none).x
      let Y:Nat→Nat:=fun i=>s (L.getD i .none).y
      let Z:Nat→Nat:=fun i=>s (L.getD i .none).z
      have get:∀ i,i<15→∃ e,L[i]?=some e∧L.getD i .none=e:=fun i hi=>by
       obtain ⟨e,he⟩:∃ e,L[i]?=some e:=⟨L[i]'(by omega),List.getElem?_eq_getElem _⟩
       exact ⟨e,he,by rw [List.getD_eq_getElem?_getD,he]; rfl⟩
      have hTab:TabAt w (β t).1 ((β t).2+ot) T X Y Z:=by
       refine ⟨fun i hi=>?_,fun i hi=>?_,fun i hi=>?_⟩
       ·obtain ⟨e,he,hd'⟩:=get i hi
        obtain ⟨g1,g2,g3⟩:=tpsOf_get hL i e he
        obtain ⟨_,hcl⟩:=hr.mem t kk hk
        obtain ⟨u,q1,q2⟩:=hcl (ot+i) (.ptr e.r e.o) (by rw [← hj i hi]; exact g1)
        rw [at_,← Nat.add_assoc,q2.1] at q1
        show w.cell? _=some (ptrTo (ptR β (L.getD i .none).r (L.getD i .none).o (L.getD i .none).q).b (ptR β (L.getD i .none).r (L.getD i .none).o (L.getD i .none).q).o)
        rw [hd']
        exact q1
       ·obtain ⟨e,he,hd'⟩:=get i hi
        obtain ⟨g1,g2,g3⟩:=tpsOf_get hL i e he
        show (ptR β (L.getD i .none).r (L.getD i .none).o (L.getD i .none).q).cells w
        rw [hd']
        exact ptAt_rep hr g2
       ·obtain ⟨e,he,hd'⟩:=get i hi
        obtain ⟨g1,g2,g3⟩:=tpsOf_get hL i e he
        show (ptR β (L.getD i .none).r (L.getD i .none).o (L.getD i .none).q).val w (s (L.getD i .none).x) (s (L.getD i .none).y) (s (L.getD i .none).z)
        rw [hd']
        exact ptNum_rep hr _ _ g3
      have off:∀ q,offT F st.nr t q L=true→OffTab (β t).1 T (β q).1:=fun q hq=>by
       simp only [offT,Bool.and_eq_true,List.all_eq_true] at hq
       obtain ⟨h1,h2⟩:=hq
       refine ⟨apart2_rep hr h1,fun i hi=>?_⟩
       obtain ⟨e,he,hd'⟩:=get i hi
       obtain ⟨⟨⟨k1,k2⟩,k3⟩,k4⟩:=h2 e (List.mem_of_getElem? he)
       show _≠(ptR β (L.getD i .none).r (L.getD i .none).o (L.getD i .none).q).b∧_≠(ptR β (L.getD i .none).r (L.getD i .none).o (L.getD i .none).q).bx∧_≠(ptR β (L.getD i .none).r (L.getD i .none).o (L.getD i .none).q).b2∧_≠(ptR β (L.getD i .none).r (L.getD i .none).o (L.getD i .none).q).bz
       rw [hd']
       exact ⟨apart2_rep hr k1,apart2_rep hr k2,apart2_rep hr k3,apart2_rep hr k4⟩
      obtain ⟨px,py,pz⟩:=pn
      obtain ⟨k1,k2,k3⟩:=ptWrite_rel (o:=o) (hr.nums (st.nx+1) (.op 4 [nw,.c 16] :: st.exs)) hwr
      have map29:∀ (c:Nat) (g:TP→Nat),((nw :: .c c :: L.map fun e=>.v (g e)).map (Wd.val s))=nw.val s :: c :: (L.map fun e=>s (g e)):=fun c g=>by
       rw [List.map_cons,List.map_cons,List.map_map]
       rfl
      have tbe:∀ (c:Nat) (g:TP→Nat),tb (nw.val s) c (fun i=>(L.map fun e=>s (g e)).getD i 0)=tb (nw.val s) c (fun i=>s (g (L.getD i .none))):=fun c g=>by
       unfold tb
       by_cases h0:nw.val s=0
       ·rw [if_pos h0,if_pos h0]
       ·rw [if_neg h0,if_neg h0]
        obtain ⟨e,he,hd'⟩:=get (nw.val s - 1) (by omega)
        show (L.map fun e=>s (g e)).getD (nw.val s - 1) 0=s (g (L.getD (nw.val s - 1) .none))
        rw [hd',List.getD_eq_getElem?_getD,List.getElem?_map,he]
        rfl
      have ex:s (st.nx+1)=tb (nw.val s) 0 X:=by
       have:s (st.nx+1)=opVal 29 ((nw :: .c 0 :: L.map fun e=>.v e.x).map (Wd.val s)):=e1
       rw [this,map29 0 (·.x),op29,tbe]
      have ey:s (st.nx+1+1)=tb (nw.val s) 1 Y:=by
       have:s (st.nx+1+1)=opVal 29 ((nw :: .c 1 :: L.map fun e=>.v e.y).map (Wd.val s)):=e2
       rw [this,map29 1 (·.y),op29,tbe]
      have ez:s (st.nx+1+2)=tb (nw.val s) 0 Z:=by
       have:s (st.nx+1+2)=opVal 29 ((nw :: .c 0 :: L.map fun e=>.v e.z).map (Wd.val s)):=e3
       rw [this,map29 0 (·.z),op29,tbe]
      have lt:∀ (f:Nat→Nat) (c:Nat),c<pq→(∀ i,i<15→f i<pq)→tb (nw.val s) c f<pq:=fun f c hc hf=>by
       unfold tb
       split
       ·exact hc
       ·exact hf _ (by omega)
      have hm:=meets80 w hn (ptR β r o p) _ _ _ (β t).1 ((β t).2+ot) T X Y Z (ptAt_rep hr hp) (ptNum_rep hr r o hpn) k2 k1 hTab (off p.rx hx) (off p.ry hy) (off p.rz hz)
      have p0:0<pq:=pq_pos
      have p1:1<pq:=by decide +kernel
      intro o' a' next Q hnx
      rw [hq1]
      refine hm o' a' next Q fun v' w' hb=>hnx _ _ ?_
      rw [← ex,← ey,← ez] at hb
      refine ⟨β,Agree.refl _ _,trivial,?_⟩
      refine k3 ?_ ?_ ?_ w' hb
      ·show s (st.nx+1)<pq
       rw [ex]; exact lt X 0 p0 fun i hi=>(hTab.val i hi).2.2.2.1
      ·show s (st.nx+1+1)<pq
       rw [ey]; exact lt Y 1 p1 fun i hi=>(hTab.val i hi).2.2.2.2.1
      ·show s (st.nx+1+2)<pq
       rw [ez]; exact lt Z 0 p0 fun i hi=>(hTab.val i hi).2.2.2.2.2
     ·cases h
    ·cases h
   ·cases h
  ·cases h
end P224
