/- The reference's Read of the bytes of a point with coordinates: what it does, and as a call that the executor knows. -/
import Derived.Test.YtccmmkgiamcgeaaGT5
import Derived.Test.YtccmmkgiamcgeaaGE1
set_option linter.all false
namespace P224
open Go Go.RowKit Go.Proofs
set_option maxRecDepth 100000
set_option linter.unusedVariables false
theorem on_of {x y a6 a7 a8 a9 a10 a12 a13:Nat} (e6:a6=y*y % pq) (e7:a7=x*x % pq) (e8:a8=a7*x % pq) (e9:a9=3*x % pq) (e10:a10=(((a8:Int) - a9) % (pq:Int)).toNat) (e12:a12=(a10+bq) % pq)
  (e13:a13=if a6=a12 then 1 else 0):a13=onN x y:=by
 have f6:fi pp a6=fi pp y*fi pp y:=by rw [e6,pq_is,fi_mod,fi_mul]
 have f7:fi pp a7=fi pp x*fi pp x:=by rw [e7,pq_is,fi_mod,fi_mul]
 have f8:fi pp a8=fi pp x*fi pp x*fi pp x:=by rw [e8,pq_is,fi_mod,fi_mul,f7]
 have f9:fi pp a9=3*fi pp x:=by rw [e9,pq_is,fi_mod,fi_mul]; rfl
 have f10:fi pp a10=fi pp x*fi pp x*fi pp x - 3*fi pp x:=by rw [e10,fi_int,f8,f9]
 have f12:fi pp a12=rhs bb (fi pp x):=by rw [e12,pq_is,fi_mod,fi_add,f10]; rfl
 have l6:a6<pp:=by rw [e6]; exact Nat.mod_lt _ pos_pp
 have l12:a12<pp:=by rw [e12]; exact Nat.mod_lt _ pos_pp
 rw [e13,onN,← f6,← f12]
 by_cases h:a6=a12
 ·rw [if_pos h,if_pos (by rw [h])]
 ·rw [if_neg h,if_neg (fun e=>h (by
   have:=fi_eq.1 e
   rwa [Nat.mod_eq_of_lt l6,Nat.mod_eq_of_lt l12] at this))]
def ex28:List Ex:=[
.feq (.v 6) (.v 12),
.fadd (.v 10) (.v 11),
.fcst 18958286285566608000408668544493926415504680968679321075787234672564,
.op 14 [(.v 8),(.v 9)],
.fmul (.c 3) (.v 2),
.fmul (.v 7) (.v 2),
.fmul (.v 2) (.v 2),
.fmul (.v 3) (.v 3),
.op 4 [(.v 3),(.c pq)],
.op 4 [(.v 2),(.c pq)],
.op 2 (bs28 1),
.op 2 (bs28 0)]
def st28:St:=startSt [curveAV 0,.one (.sl 1 0 57)] [(0,foldCells),(1,ptRow 0 1)] 2 2
def fix28:Fix:=fixD 67 2 [] [] [(4,true),(5,true)]
noncomputable def br28:BriefR:=⟨.ret,14,ex28,[],[.agg [.lit (.bool false),.slc 4 0 7 7,.slc 5 0 7 7],.one (.bl 13)],[some (l32s 2),some (l32s 3)]⟩
theorem run28:briefR (tabX true [] xq2) Try.f28 [4,5] (runF (tabX true [] xq2) fix28 3000 Try.f28 st28)=some br28:=by kernel_rfl
theorem ptRow_def {i j:Nat} {x:A0} (hx:x ∈ ptRow i j):definite x=true:=by
 rw [ptRow] at hx
 rcases List.mem_cons.1 hx with rfl | hx
 ·rfl
 ·rcases List.mem_append.1 hx with hx | hx
  ·obtain ⟨k,_,rfl⟩:=List.mem_map.1 hx; rfl
  ·obtain ⟨k,_,rfl⟩:=List.mem_map.1 hx; rfl
def PtBytes (w:World) (b o x y:Nat):Prop:=∀ (k z:Nat),(pvals x y)[k]?=some z→w.cell? ⟨b,o+k,none⟩=some (.int .u8 (z:Int))
theorem ptRow_row {s:Nums} {β:Places} {n r b o i j x y:Nat} {w:World} (hβ:β r=(b,o)) (h:PtBytes w b o x y) (hi:s i=x) (hj:s j=y) (hx:x<pq) (hy:y<pq):RowOk s β n r w 0 (ptRow i j):=by
 refine row_of fun k z hz=>?_
 obtain ⟨u,hu,hrep⟩:=ptRow_rep (s:=s) (i:=i) (j:=j) (by rw [hi]; exact hx) (by rw [hj]; exact hy) k z hz
 rw [hi,hj] at hu
 refine ⟨_,?_,hrep β n⟩
 rw [at_,hβ,Nat.zero_add]
 exact h k u hu
theorem law28 {s:Nums} {x y:Nat} (h0:s 0=x) (h1:s 1=y) (hx:x<pq) (hy:y<pq) (h:Holds s 14 ex28):s 2=x∧s 3=y∧s 4=1∧s 5=1∧s 13=onN x y:=by
 obtain ⟨h13,h12,h11,h10,h9,h8,h7,h6,h5,h4,h3,h2,_⟩:=h
 have e2:s 2=x:=by
  have:s 2=ofBytes ((bs28 0).map (Wd.val s)):=h2
  rw [this,vals_bs28 (by rw [h0]; exact hx),h0]
 have e3:s 3=y:=by
  have:s 3=ofBytes ((bs28 1).map (Wd.val s)):=h3
  rw [this,vals_bs28 (by rw [h1]; exact hy),h1]
 have e4:s 4=if s 2<pq then 1 else 0:=h4
 have e5:s 5=if s 3<pq then 1 else 0:=h5
 rw [e2,if_pos hx] at e4
 rw [e3,if_pos hy] at e5
 have e6:s 6=s 3*s 3 % pq:=h6
 have e7:s 7=s 2*s 2 % pq:=h7
 have e8:s 8=s 7*s 2 % pq:=h8
 have e9:s 9=3*s 2 % pq:=h9
 have e10:s 10=(((s 8:Int) - s 9) % (pq:Int)).toNat:=h10
 have e11:s 11=bq % pq:=h11
 have e12:s 12=(s 10+s 11) % pq:=h12
 have e13:s 13=if s 6=s 12 then 1 else 0:=h13
 rw [Nat.mod_eq_of_lt bq_lt] at e11
 rw [e11] at e12
 rw [e2] at e7 e8 e9
 rw [e3] at e6
 exact ⟨e2,e3,e4,e5,on_of e6 e7 e8 e9 e10 e12 e13⟩
theorem row_el {s:Nums} {β:Places} {F:Fix} {w0:World} {st:St} {a:Act} {w:World} (hr:Rel F s β w0 st a w) {r i x b:Nat} (hl:lookup r st.mem=some (l32s i)) (hn:F.nold≤r) (hs:s i=x) (hb:β r=(b,0)) :
  El w b 0 x∧(∀ k,k<7→w.frozen? ⟨b,k,none⟩=false)∧r<st.nr:=by
 obtain ⟨h1,hc⟩:=hr.mem r _ hl
 have key:∀ k,k<7→w.cell? ⟨b,0+k,none⟩=some (.int .i64 (D x k:Int))∧x<2 ^ 224:=fun k hk=>by
  obtain ⟨v,u1,u2⟩:=hc k (.l32 i k) (by rw [l32s,List.getElem?_map,List.getElem?_range hk]; rfl)
  have u3:v=.int .i64 ((s i / 2 ^ (32*k) % 2 ^ 32:Nat):Int):=u2.1
  rw [u3,at_,hb,hs] at u1
  exact ⟨u1,by rw [← hs]; exact u2.2⟩
 refine ⟨⟨fun k hk=>(key k hk).1,(key 0 (by decide)).2⟩,fun k hk=>?_,h1⟩
 have:=hr.frz r _ hl (.inl hn) k (by simp [l32s]; exact hk)
 rw [at_,hb,Nat.zero_add] at this
 exact this
theorem meets28 (w:World) (bf of b o c x y:Nat) (hc:57≤c) (hfo:FoldsAt w bf of) (hp:PtBytes w b o x y) (hx:x<pq) (hy:y<pq) :
  Meets Try.prog 28 #[curveV bf of,.slice (some ⟨b,o,none⟩) 57 c] w fun v w'=>∃ bx b2,NewEls w x y bx b2 w'∧v=.tuple #[.agg #[.bool false,.slice (some ⟨bx,0,none⟩) 7 7,.slice (some ⟨b2,0,none⟩) 7 7],.bool (onN x y == 1)]:=by
 refine meets_of_calls Try.func28 (by kernel_rfl) (by kernel_rfl) ?_
 let β:Places:=fun r=>if r=0 then (bf,of) else (b,o)
 let s0:Nums:=fun i=>if i=0 then x else y
 have hlt:b<w.heap.size:=World.block_lt_of_cell? w _ (hp 0 4 rfl)
 refine calls_briefR (F:=fix28) (tabX_ok noPrims_ok xq2_ok) run28 Try.func28 Try.ntmps28 rfl (by decide +kernel) (by decide +kernel) (by decide +kernel) (show 2≤67 by decide) (show 2<4095 by decide) s0 β
  (vals:=[curveV bf of,.slice (some ⟨b,o,none⟩) 57 c]) (fun s hs=>⟨curve_rep rfl (show 0<2 by decide),⟨c,hc,rfl,show 1<2 by decide⟩,trivial⟩)
  (fun s hs=>⟨show 0<2 by decide,fold_row rfl hfo,show 1<2 by decide,ptRow_row rfl hp (hs 0 (by decide)) (hs 1 (by decide)) hx hy,trivial⟩) (fun r l hl hr=>by cases hr) (fun r _=>by
   show (if r=0 then (bf,of) else (b,o)).1<_
   split
   ·exact hfo.lt
   ·exact hlt) (fun r q _ _ h=>by cases h) ?_ ?_
 ·intro s hs hH i bb hb
  obtain ⟨_,_,e4,e5,_⟩:=law28 (hs 0 (by decide)) (hs 1 (by decide)) hx hy hH
  have hb':findT i [(4,true),(5,true)]=some bb:=hb
  have:=findT_mem hb'
  simp only [List.mem_cons,List.not_mem_nil,or_false,Prod.mk.injEq] at this
  rcases this with ⟨rfl,rfl⟩|⟨rfl,rfl⟩
  ·exact e4
  ·exact e5
 ·intro s hs hH st' β' a' w' v hv hm hag hr hbe
  obtain ⟨e2,e3,_,_,e13⟩:=law28 (hs 0 (by decide)) (hs 1 (by decide)) hx hy hH
  have hm':[lookup 4 st'.mem,lookup 5 st'.mem]=[some (l32s 2),some (l32s 3)]:=hm
  injection hm' with m1 hm'
  injection hm' with m2 _
  have n1:fix28.nold≤4:=by decide
  have n2:fix28.nold≤5:=by decide
  obtain ⟨p1,_⟩:=hr.mem 4 _ m1
  obtain ⟨p2,_⟩:=hr.mem 5 _ m2
  obtain ⟨f1,f2,f3⟩:=hr.fresh 4 n1 p1
  obtain ⟨g1,g2,g3⟩:=hr.fresh 5 n2 p2
  have hd:=hr.dist 4 5 n1 n2 p1 p2 (by decide)
  obtain ⟨u1,u2,_⟩:=row_el hr m1 n1 e2 (b:=(β' 4).1) (by rw [← f3])
  obtain ⟨v1,v2,_⟩:=row_el hr m2 n2 e3 (b:=(β' 5).1) (by rw [← g3])
  obtain ⟨vs,rfl,hvl⟩:=hv
  match vs,hvl with
  | [w1,w2],⟨hw1,hw2,_⟩ =>
  obtain ⟨us,rfl,hul,huc⟩:=hw1
  match us,hul,huc with
  | [z0,z1,z2],_,huc =>
  have k0:z0=.bool false:=huc 0 _ z0 rfl rfl
  have k1:=(huc 1 _ z1 rfl rfl).1
  have k2:=(huc 2 _ z2 rfl rfl).1
  have k3:w2=.bool (s 13 == 1):=hw2.1
  refine ⟨_,rfl,(β' 4).1,(β' 5).1,⟨f1,f2,g1,g2,hd,u1,v1,u2,v2,hbe⟩,?_⟩
  rw [k0,k1,k2,k3,e13,at_,at_,f3,g3]
  rfl
def x28a:X:=fun F st args=>match args with
 | [cv,.one x]=>match isCurve st cv,x.asSl with
  | some _,some (r,o,57)=>match cellsAt st.mem r o 57 with
   | some (t :: l)=>match l.head?,l.getLast? with
    | some (.byt i _),some (.byt j _)=>bif sameAll (t :: l) (ptRow i j) then some (.tup [.agg [.lit (.bool false),.slc st.nr 0 7 7,.slc (st.nr+1) 0 7 7],.one (.bl st.nx)],
      { st with mem:=(st.nr+1,l32s j) :: (st.nr,l32s i) :: st.mem,nr:=st.nr+2,nx:=st.nx+1,exs:=.op 20 [.v i,.v j] :: st.exs }) else none
    | _,_=>none
   | _=>none
  | _,_=>none
 | _=>none
theorem onN_le (x y:Nat):onN x y≤1:=by
 unfold onN
 split <;> decide
theorem x28a_ok:XOk Try.prog 28 x28a:=by
 refine ⟨fun {F st st' args av} h=>?_,fun {s β F w0 st st' a w args vs av} hr h hargs hH=>?_⟩
 ·unfold x28a at h
  split at h
  ·split at h
   ·split at h
    ·split at h
     ·obtain ⟨_,h⟩:=bif_some h
      cases h; exact ⟨⟨[_],rfl,rfl⟩,Nat.le_add_right _ _⟩
     ·cases h
    ·cases h
   ·cases h
  ·cases h
 ·unfold x28a at h
  split at h
  ·rename_i cv x
   split at h
   ·rename_i q r o hcv hx
    split at h
    ·rename_i t l hl
     split at h
     ·rename_i i _ j _ _ _
      obtain ⟨hs,h⟩:=bif_some h
      cases h
      obtain ⟨u0,u,rfl,hu0,hu⟩:=avs2 hargs
      obtain ⟨rf,of⟩:=q
      obtain ⟨c0,c1,c2⟩:=isCurve_rep hr hcv hu0
      obtain ⟨⟨ca,hva,hca⟩,_⟩:=asSl_rep hx hu
      rw [sameAll_eq hs] at hl
      obtain ⟨k,hk,hlen,_,hj⟩:=cellsAt_ok (nr:=0) hl
      obtain ⟨_,hcl⟩:=hr.mem r k hk
      have get:∀ m,m<57→∀ z,(ptRow i j)[m]?=some z→∃ v,w.cell? ⟨(β r).1,(β r).2+o+m,none⟩=some v∧z.rep s β st.nr v:=fun m hm z hz=>by
       obtain ⟨v,h1,h2⟩:=hcl (o+m) z (by rw [← hj m hm]; exact hz)
       rw [at_,← Nat.add_assoc] at h1
       exact ⟨v,h1,h2⟩
      have li:s i<pq:=by
       obtain ⟨v,_,h2⟩:=get 1 (by decide) (.byt i 27) rfl
       exact h2.2
      have lj:s j<pq:=by
       obtain ⟨v,_,h2⟩:=get 29 (by decide) (.byt j 27) rfl
       exact h2.2
      have hpt:PtBytes w (β r).1 ((β r).2+o) (s i) (s j):=by
       intro m z hz
       have hm:m<57:=by
        have:=(List.getElem?_eq_some_iff.1 hz).1
        rwa [pvals_len] at this
       obtain ⟨y,hy⟩:∃ y,(ptRow i j)[m]?=some y:=⟨_,List.getElem?_eq_getElem (by rw [ptRow_len]; exact hm)⟩
       obtain ⟨v,h1,h2⟩:=get m hm y hy
       obtain ⟨z',hz',hrep⟩:=ptRow_rep li lj m y hy
       rw [hz] at hz'
       cases hz'
       have hdf:=ptRow_def (List.mem_of_getElem? hy)
       rw [h1,rep_conc hdf h2,← rep_conc hdf (hrep β st.nr)]
      have hme:=meets28 w (β rf).1 ((β rf).2+of) (β r).1 ((β r).2+o) ca _ _ hca c1 hpt li lj
      intro o' a' next Q hn
      rw [c0,hva]
      refine hme o' a' next Q fun v' w' ⟨bx,b2,hels,hv'⟩=>hn _ _ ?_
      obtain ⟨β',g1,g2,g3,g4⟩:=hr.els hels rfl rfl
      have he:s st.nx=onN (s i) (s j):=hH.1
      refine ⟨β',g1,⟨[_,_],hv',⟨[_,_,_],rfl,rfl,fun k a x ha hx=>?_⟩,⟨?_,?_⟩,trivial⟩,g4.nums _ _⟩
      ·match k,ha,hx with
       | 0,ha,hx=>cases ha; cases hx; exact rfl
       | 1,ha,hx=>cases ha; cases hx; exact ⟨by rw [at_,g2],Nat.lt_succ_of_lt (Nat.lt_succ_self _)⟩
       | 2,ha,hx=>cases ha; cases hx; exact ⟨by rw [at_,g3],Nat.lt_succ_self _⟩
       | k+3,ha,hx=>cases ha
      ·rw [he]
      ·rw [he]; exact onN_le _ _
     ·cases h
    ·cases h
   ·cases h
  ·cases h
end P224
/- The package's point out of bytes: what it does, and as a call that the executor knows. -/
namespace P224
open Go Go.RowKit Go.Proofs
set_option maxRecDepth 100000
set_option linter.unusedVariables false
theorem on_of2 {x y a13 a14 a16 a17 a18 a20 a22 a23:Nat} (e13:a13=x*x % pq) (e14:a14=a13*x % pq) (e16:a16=(x+x) % pq) (e17:a17=(a16+x) % pq) (e18:a18=(a14+(pq - a17)) % pq) (e20:a20=(a18+bq) % pq)
  (e22:a22=y*y % pq) (e23:a23=if a20=a22 then 1 else 0):a23=onN x y:=by
 have f13:fi pp a13=fi pp x*fi pp x:=by rw [e13,pq_is,fi_mod,fi_mul]
 have f14:fi pp a14=fi pp x*fi pp x*fi pp x:=by rw [e14,pq_is,fi_mod,fi_mul,f13]
 have f16:fi pp a16=fi pp x+fi pp x:=by rw [e16,pq_is,fi_mod,fi_add]
 have f17:fi pp a17=fi pp x+fi pp x+fi pp x:=by rw [e17,pq_is,fi_mod,fi_add,f16]
 have l17:a17≤pp:=by rw [e17]; exact Nat.le_of_lt (Nat.mod_lt _ pos_pp)
 have f18:fi pp a18=fi pp x*fi pp x*fi pp x - (fi pp x+fi pp x+fi pp x):=by rw [e18,pq_is,fi_mod,fi_sub l17,f14,f17]
 have f20:fi pp a20=rhs bb (fi pp x):=by
  rw [e20,pq_is,fi_mod,fi_add,f18]
  unfold rhs
  have:fi pp bq=bb:=rfl
  rw [this]
  grind
 have f22:fi pp a22=fi pp y*fi pp y:=by rw [e22,pq_is,fi_mod,fi_mul]
 have l20:a20<pp:=by rw [e20]; exact Nat.mod_lt _ pos_pp
 have l22:a22<pp:=by rw [e22]; exact Nat.mod_lt _ pos_pp
 rw [e23,onN,← f20,← f22]
 by_cases h:a20=a22
 ·rw [if_pos h,if_pos (by rw [h])]
 ·rw [if_neg h,if_neg (fun e=>h (by
   have:=fi_eq.1 e
   rw [Nat.mod_eq_of_lt l20,Nat.mod_eq_of_lt l22] at this
   exact this.symm))]
structure NewPoint (w:World) (x y z bp bx b2 bz:Nat) (w':World):Prop where
 ge:w.heap.size≤bp∧w.heap.size≤bx∧w.heap.size≤b2∧w.heap.size≤bz
 lt:bp<w'.heap.size∧bx<w'.heap.size∧b2<w'.heap.size∧bz<w'.heap.size
 ne:bx≠b2∧bx≠bz∧b2≠bz∧bx≠bp∧b2≠bp∧bz≠bp
 cells:w'.cell? ⟨bp,0,none⟩=some (ptrTo bx 0)∧w'.cell? ⟨bp,1,none⟩=some (ptrTo b2 0)∧w'.cell? ⟨bp,2,none⟩=some (ptrTo bz 0)
 els:ElemAt w' bx 0 x∧ElemAt w' b2 0 y∧ElemAt w' bz 0 z
 small:x<pq∧y<pq∧z<pq
 fz:(∀ k,k<3→w'.frozen? ⟨bp,k,none⟩=false)∧(∀ k,k<4→w'.frozen? ⟨bx,k,none⟩=false)∧(∀ k,k<4→w'.frozen? ⟨b2,k,none⟩=false)∧∀ k,k<4→w'.frozen? ⟨bz,k,none⟩=false
 below:Below w.heap.size w w'
section
variable {s:Nums} {β:Places} {F:Fix} {w0:World} {st:St} {a:Act} {w:World}
theorem Rel.point (h:Rel F s β w0 st a w) {x y z bp bx b2 bz i j k:Nat} {w':World} (hn:NewPoint w x y z bp bx b2 bz w') (hi:s i=x) (hj:s j=y) (hk:s k=z) :
  ∃ β',Agree β β' st.nr∧β' (st.nr+3)=(bp,0)∧Rel F s β' w0 { st with mem:=(st.nr+3,[.ptr st.nr 0,.ptr (st.nr+1) 0,.ptr (st.nr+2) 0]) :: (st.nr+2,limbs k) :: (st.nr+1,limbs j) :: (st.nr,limbs i) :: st.mem,nr:=st.nr+4 } a w':=by
 obtain ⟨⟨h1,h2,h3,h4⟩,⟨l1,l2,l3,l4⟩,⟨n1,n2,n3,n4,n5,n6⟩,⟨c1,c2,c3⟩,⟨e1,e2,e3⟩,⟨s1,s2,s3⟩,⟨z1,z2,z3,z4⟩,hb⟩:=hn
 have hsz:=h.size_le
 have f1:=h.far_from (B:=0) h1
 have f2:=h.far_from (B:=0) h2
 have f3:=h.far_from (B:=0) h3
 have f4:=h.far_from (B:=0) h4
 have hk':=h.kept hb
 obtain ⟨β1,g1,q1,r1⟩:=hk'.add (Nat.le_trans hsz h2) l2 f2 (l:=limbs i) (fun m y hy=>by
  obtain ⟨v,u1,u2⟩:=limbs_cells e1 hi s1 m y hy
  exact ⟨v,u1,fun β' _ _=>u2 β' _⟩) (fun m hm=>z2 m hm)
 have a1:∀ b',(∀ r,F.nold≤r→r<st.nr→(β r).1≠b')→bx≠b'→∀ r,F.nold≤r→r<st.nr+1→(β1 r).1≠b':=fun b' hb hne r hr1 hr2=>by
  by_cases hr:r<st.nr
  ·rw [g1 r hr]; exact hb r hr1 hr
  ·have:r=st.nr:=by omega
   subst this
   rw [q1]
   exact hne
 obtain ⟨β2,g2,q2,r2⟩:=r1.add (Nat.le_trans hsz h3) l3 (a1 b2 f3 n1) (l:=limbs j) (fun m y hy=>by
  obtain ⟨v,u1,u2⟩:=limbs_cells e2 hj s2 m y hy
  exact ⟨v,u1,fun β' _ _=>u2 β' _⟩) (fun m hm=>z3 m hm)
 have a2:∀ b',(∀ r,F.nold≤r→r<st.nr+1→(β1 r).1≠b')→b2≠b'→∀ r,F.nold≤r→r<st.nr+1+1→(β2 r).1≠b':=fun b' hb hne r hr1 hr2=>by
  by_cases hr:r<st.nr+1
  ·rw [g2 r hr]; exact hb r hr1 hr
  ·have:r=st.nr+1:=by omega
   subst this
   rw [q2]
   exact hne
 obtain ⟨β3,g3,q3,r3⟩:=r2.add (Nat.le_trans hsz h4) l4 (a2 bz (a1 bz f4 n2) n3) (l:=limbs k) (fun m y hy=>by
  obtain ⟨v,u1,u2⟩:=limbs_cells e3 hk s3 m y hy
  exact ⟨v,u1,fun β' _ _=>u2 β' _⟩) (fun m hm=>z4 m hm)
 have a3:∀ r,F.nold≤r→r<st.nr+1+1+1→(β3 r).1≠bp:=fun r hr1 hr2=>by
  by_cases hr:r<st.nr+1+1
  ·rw [g3 r hr]; exact a2 bp (a1 bp f1 n4) n5 r hr1 hr
  ·have:r=st.nr+1+1:=by omega
   subst this
   rw [q3]
   exact n6
 have p1:β3 st.nr=(bx,0):=by rw [g3 st.nr (show st.nr<st.nr+1+1 by omega),g2 st.nr (show st.nr<st.nr+1 by omega),q1]
 have p2:β3 (st.nr+1)=(b2,0):=by rw [g3 (st.nr+1) (show st.nr+1<st.nr+1+1 by omega),q2]
 obtain ⟨β4,g4,q4,r4⟩:=r3.add (Nat.le_trans hsz h1) l1 a3 (l:=[.ptr st.nr 0,.ptr (st.nr+1) 0,.ptr (st.nr+2) 0]) (fun m y hy=>by
  have lt1:st.nr<st.nr+1+1+1:=by omega
  have lt2:st.nr+1<st.nr+1+1+1:=by omega
  have lt3:st.nr+2<st.nr+1+1+1:=by omega
  match m,hy with
  | 0,hy=>cases hy; exact ⟨_,c1,fun β' hag _=>⟨by rw [at_,hag _ lt1,p1],Nat.lt_succ_of_lt lt1⟩⟩
  | 1,hy=>cases hy; exact ⟨_,c2,fun β' hag _=>⟨by rw [at_,hag _ lt2,p2],Nat.lt_succ_of_lt lt2⟩⟩
  | 2,hy=>cases hy; exact ⟨_,c3,fun β' hag _=>⟨by rw [at_,hag _ lt3]; show ptrTo bz 0=.pointer (some ⟨(β3 (st.nr+1+1)).1,(β3 (st.nr+1+1)).2+0,none⟩); rw [q3],Nat.lt_succ_of_lt lt3⟩⟩
  | m+3,hy=>cases hy) (fun m hm=>z1 m hm)
 exact ⟨β4,fun r hr=>by rw [g4 r (show r<st.nr+1+1+1 by omega),g3 r (show r<st.nr+1+1 by omega),g2 r (show r<st.nr+1 by omega),g1 r hr],q4,r4⟩
end
end P224
/- The package's point out of the bytes of a point of the curve, as a call that the executor knows. -/
namespace P224
open Go Go.RowKit Go.Proofs
set_option maxRecDepth 100000
set_option linter.unusedVariables false
def fix61:Fix:=fixD 16 1 [] [] [(8,true),(11,true),(24,false)]
def st61:St:=startSt [.one (.sl 0 0 57)] [(0,ptRow 0 1)] 2 1
def ex61:List Ex:=[
.fcst 1,
.fne (.v 23) (.c 1),
.feq (.v 20) (.v 22),
.fmul (.v 10) (.v 10),
.fcst 0,
.fadd (.v 18) (.v 19),
.fcst bq,
.fsub (.v 14) (.v 17),
.fadd (.v 16) (.v 7),
.fadd (.v 7) (.v 7),
.fcst 0,
.fmul (.v 13) (.v 7),
.fmul (.v 7) (.v 7),
.fcst 0,
.op 4 [(.v 10),(.c pq)],
.op 2 (bs28 1),
.fcst 0,
.op 4 [(.v 7),(.c pq)],
.op 2 (bs28 0),
.fcst 0,
.fcst 0,
.fcst 1,
.fcst 0,
.fcst 0]
def br61:BriefR:=⟨.ret,26,ex61,[],[.one (.ptr 4 0),.one (.lit (.bool true))],[some (limbs 7),some (limbs 10),some (limbs 25),some [.ptr 1 0,.ptr 2 0,.ptr 3 0]]⟩
theorem run61:briefR (tabX true pointPrims xi3) Try.f61 [1,2,3,4] (runF (tabX true pointPrims xi3) fix61 3000 Try.f61 st61)=some br61:=by kernel_rfl
theorem law61 {s:Nums} {x y:Nat} (h0:s 0=x) (h1:s 1=y) (hx:x<pq) (hy:y<pq) (hon:onN x y=1) (h:Holds s 26 ex61):s 7=x∧s 10=y∧s 25=1∧s 8=1∧s 11=1∧s 24=0:=by
 obtain ⟨h25,h24,h23,h22,h21,h20,h19,h18,h17,h16,h15,h14,h13,h12,h11,h10,h9,h8,h7,_⟩:=h
 have e7:s 7=x:=by
  have:s 7=ofBytes ((bs28 0).map (Wd.val s)):=h7
  rw [this,vals_bs28 (by rw [h0]; exact hx),h0]
 have e10:s 10=y:=by
  have:s 10=ofBytes ((bs28 1).map (Wd.val s)):=h10
  rw [this,vals_bs28 (by rw [h1]; exact hy),h1]
 have e8:s 8=if s 7<pq then 1 else 0:=h8
 have e11:s 11=if s 10<pq then 1 else 0:=h11
 rw [e7,if_pos hx] at e8
 rw [e10,if_pos hy] at e11
 have e13:s 13=s 7*s 7 % pq:=h13
 have e14:s 14=s 13*s 7 % pq:=h14
 have e16:s 16=(s 7+s 7) % pq:=h16
 have e17:s 17=(s 16+s 7) % pq:=h17
 have e18:s 18=(s 14+(pq - s 17)) % pq:=h18
 have e19:s 19=bq % pq:=h19
 have e20:s 20=(s 18+s 19) % pq:=h20
 have e22:s 22=s 10*s 10 % pq:=h22
 have e23:s 23=if s 20=s 22 then 1 else 0:=h23
 have e24:s 24=if s 23=1 then 0 else 1:=h24
 have e25:s 25=1 % pq:=h25
 rw [Nat.mod_eq_of_lt bq_lt] at e19
 rw [e19] at e20
 rw [e7] at e13 e14 e16 e17
 rw [e10] at e22
 have ho:=on_of2 e13 e14 e16 e17 e18 e20 e22 e23
 rw [hon] at ho
 rw [ho,if_pos rfl] at e24
 exact ⟨e7,e10,e25.trans mod_one_pq,e8,e11,e24⟩
theorem row_limbs {s:Nums} {β:Places} {F:Fix} {w0:World} {st:St} {a:Act} {w:World} (hr:Rel F s β w0 st a w) {r i x b:Nat} (hl:lookup r st.mem=some (limbs i)) (hn:F.nold≤r) (hs:s i=x) (hb:β r=(b,0)) :
  ElemAt w b 0 x∧(∀ k,k<4→w.frozen? ⟨b,k,none⟩=false)∧x<pq:=by
 obtain ⟨h1,hc⟩:=hr.mem r _ hl
 have hel:elemAt st.mem r 0=some i:=by
  unfold elemAt cellsAt
  rw [hl]
  show (bif (i == i && i == i && i == i) then some i else none)=some i
  rw [show (i == i)=true from beq_self_eq_true i]
  rfl
 obtain ⟨g1,g2⟩:=elemAt_rep hr hel
 rw [hb,hs] at g1
 rw [hs] at g2
 refine ⟨g1,fun k hk=>?_,g2⟩
 have:=hr.frz r _ hl (.inl hn) k hk
 rw [at_,hb,Nat.zero_add] at this
 exact this
theorem meets61 (w:World) (b o c x y:Nat) (hc:57≤c) (hp:PtBytes w b o x y) (hx:x<pq) (hy:y<pq) (hon:onN x y=1) :
  Meets Try.prog 61 #[.slice (some ⟨b,o,none⟩) 57 c] w fun v w'=>∃ bp bx b2 bz,NewPoint w x y 1 bp bx b2 bz w'∧v=.tuple #[ptrTo bp 0,.bool true]:=by
 refine meets_of_calls Try.func61 (by kernel_rfl) (by kernel_rfl) ?_
 let β:Places:=fun r=>(b,o)
 let s0:Nums:=fun i=>if i=0 then x else y
 have hlt:b<w.heap.size:=World.block_lt_of_cell? w _ (hp 0 4 rfl)
 refine calls_briefR (F:=fix61) (tabX_ok pointPrims_ok xi3_ok) run61 Try.func61 Try.ntmps61 rfl (by decide +kernel) (by decide +kernel) (by decide +kernel) (show 1≤16 by decide) (show 1<4095 by decide) s0 β
  (vals:=[.slice (some ⟨b,o,none⟩) 57 c]) (fun s hs=>⟨⟨c,hc,rfl,show 0<1 by decide⟩,trivial⟩)
  (fun s hs=>⟨show 0<1 by decide,ptRow_row rfl hp (hs 0 (by decide)) (hs 1 (by decide)) hx hy,trivial⟩) (fun r l hl hr=>by cases hr) (fun r _=>hlt) (fun r q _ _ h=>by cases h) ?_ ?_
 ·intro s hs hH i bb hb
  obtain ⟨_,_,_,e8,e11,e24⟩:=law61 (hs 0 (by decide)) (hs 1 (by decide)) hx hy hon hH
  have hb':findT i [(8,true),(11,true),(24,false)]=some bb:=hb
  have:=findT_mem hb'
  simp only [List.mem_cons,List.not_mem_nil,or_false,Prod.mk.injEq] at this
  rcases this with ⟨rfl,rfl⟩|⟨rfl,rfl⟩|⟨rfl,rfl⟩
  ·exact e8
  ·exact e11
  ·exact e24
 ·intro s hs hH st' β' a' w' v hv hm hag hr hbe
  obtain ⟨e7,e10,e25,_,_,_⟩:=law61 (hs 0 (by decide)) (hs 1 (by decide)) hx hy hon hH
  have hm':[lookup 1 st'.mem,lookup 2 st'.mem,lookup 3 st'.mem,lookup 4 st'.mem]=[some (limbs 7),some (limbs 10),some (limbs 25),some [.ptr 1 0,.ptr 2 0,.ptr 3 0]]:=hm
  injection hm' with m1 hm'
  injection hm' with m2 hm'
  injection hm' with m3 hm'
  injection hm' with m4 _
  have n1:fix61.nold≤1:=by decide
  have n2:fix61.nold≤2:=by decide
  have n3:fix61.nold≤3:=by decide
  have n4:fix61.nold≤4:=by decide
  obtain ⟨p1,_⟩:=hr.mem 1 _ m1
  obtain ⟨p2,_⟩:=hr.mem 2 _ m2
  obtain ⟨p3,_⟩:=hr.mem 3 _ m3
  obtain ⟨p4,c4⟩:=hr.mem 4 _ m4
  obtain ⟨f1,f2,f3⟩:=hr.fresh 1 n1 p1
  obtain ⟨g1,g2,g3⟩:=hr.fresh 2 n2 p2
  obtain ⟨i1,i2,i3⟩:=hr.fresh 3 n3 p3
  obtain ⟨j1,j2,j3⟩:=hr.fresh 4 n4 p4
  obtain ⟨u1,u2,u3⟩:=row_limbs hr m1 n1 e7 (b:=(β' 1).1) (by rw [← f3])
  obtain ⟨v1,v2,v3⟩:=row_limbs hr m2 n2 e10 (b:=(β' 2).1) (by rw [← g3])
  obtain ⟨x1,x2,x3⟩:=row_limbs hr m3 n3 e25 (b:=(β' 3).1) (by rw [← i3])
  have get:∀ k q,[A0.ptr 1 0,.ptr 2 0,.ptr 3 0][k]?=some (.ptr q 0)→(β' q).2=0→w'.cell? ⟨(β' 4).1,k,none⟩=some (ptrTo (β' q).1 0):=fun k q hk hq=>by
   obtain ⟨v,y1,y2⟩:=c4 k _ hk
   rw [y2.1,at_,at_,j3,hq,Nat.zero_add] at y1
   exact y1
  have fz:∀ k,k<3→w'.frozen? ⟨(β' 4).1,k,none⟩=false:=fun k hk=>by
   have:=hr.frz 4 _ m4 (.inl n4) k hk
   rw [at_,j3,Nat.zero_add] at this
   exact this
  obtain ⟨vs,rfl,hvl⟩:=hv
  match vs,hvl with
  | [w1,w2],⟨hw1,hw2,_⟩ =>
  have k1:w1=.pointer (some (at_ β' 4 0)):=hw1.1
  have k2:w2=.bool true:=hw2
  refine ⟨_,rfl,(β' 4).1,(β' 1).1,(β' 2).1,(β' 3).1,⟨⟨j1,f1,g1,i1⟩,⟨j2,f2,g2,i2⟩,⟨hr.dist 1 2 n1 n2 p1 p2 (by decide),hr.dist 1 3 n1 n3 p1 p3 (by decide),hr.dist 2 3 n2 n3 p2 p3 (by decide),hr.dist 1 4 n1 n4 p1 p4 (by decide),hr.dist 2 4 n2 n4 p2 p4 (by decide),hr.dist 3 4 n3 n4 p3 p4 (by decide)⟩,
   ⟨get 0 1 rfl f3,get 1 2 rfl g3,get 2 3 rfl i3⟩,⟨u1,v1,x1⟩,⟨u3,v3,x3⟩,⟨fz,u2,v2,x2⟩,hbe⟩,?_⟩
  rw [k1,k2,at_,j3]
end P224
/- The package's point out of bytes, as a call that the executor knows. -/
namespace P224
open Go Go.RowKit Go.Proofs
set_option maxRecDepth 100000
set_option linter.unusedVariables false
def pointRow (m:List (Nat × List A0)) (r o:Nat):Option (Nat × Nat) :=
 match cellsAt m r o 57 with
 | some (t :: l)=>match l.head?,l.getLast? with
  | some (.byt i _),some (.byt j _)=>bif sameAll (t :: l) (ptRow i j) then some (i,j) else none
  | _,_=>none
 | _=>none
theorem pointRow_rep {s:Nums} {β:Places} {F:Fix} {w0:World} {st:St} {a:Act} {w:World} (hr:Rel F s β w0 st a w) {r o i j:Nat} (h:pointRow st.mem r o=some (i,j)) :
  PtBytes w (β r).1 ((β r).2+o) (s i) (s j)∧s i<pq∧s j<pq:=by
 unfold pointRow at h
 split at h
 ·rename_i t l hl
  split at h
  ·rename_i i' _ j' _ _ _
   obtain ⟨hs,h⟩:=bif_some h
   cases h
   rw [sameAll_eq hs] at hl
   obtain ⟨k,hk,hlen,_,hj⟩:=cellsAt_ok (nr:=0) hl
   obtain ⟨_,hcl⟩:=hr.mem r k hk
   have get:∀ m,m<57→∀ z,(ptRow i j)[m]?=some z→∃ v,w.cell? ⟨(β r).1,(β r).2+o+m,none⟩=some v∧z.rep s β st.nr v:=fun m hm z hz=>by
    obtain ⟨v,h1,h2⟩:=hcl (o+m) z (by rw [← hj m hm]; exact hz)
    rw [at_,← Nat.add_assoc] at h1
    exact ⟨v,h1,h2⟩
   have li:s i<pq:=by
    obtain ⟨v,_,h2⟩:=get 1 (by decide) (.byt i 27) rfl
    exact h2.2
   have lj:s j<pq:=by
    obtain ⟨v,_,h2⟩:=get 29 (by decide) (.byt j 27) rfl
    exact h2.2
   refine ⟨fun m z hz=>?_,li,lj⟩
   have hm:m<57:=by
    have:=(List.getElem?_eq_some_iff.1 hz).1
    rwa [pvals_len] at this
   obtain ⟨y,hy⟩:∃ y,(ptRow i j)[m]?=some y:=⟨_,List.getElem?_eq_getElem (by rw [ptRow_len]; exact hm)⟩
   obtain ⟨v,h1,h2⟩:=get m hm y hy
   obtain ⟨z',hz',hrep⟩:=ptRow_rep li lj m y hy
   rw [hz] at hz'
   cases hz'
   have hdf:=ptRow_def (List.mem_of_getElem? hy)
   rw [h1,rep_conc hdf h2,← rep_conc hdf (hrep β st.nr)]
  ·cases h
 ·cases h
def x61a:X:=fun F st args=>match args with
 | [.one x]=>match x.asSl with
  | some (r,o,57)=>match pointRow st.mem r o,F.dec st.nx with
   | some (i,j),some true=>some (.tup [.one (.ptr (st.nr+3) 0),.one (.lit (.bool true))],
     { st with mem:=(st.nr+3,[.ptr st.nr 0,.ptr (st.nr+1) 0,.ptr (st.nr+2) 0]) :: (st.nr+2,limbs (st.nx+1)) :: (st.nr+1,limbs j) :: (st.nr,limbs i) :: st.mem,nr:=st.nr+4,nx:=st.nx+2,exs:=.fcst 1 :: .op 20 [.v i,.v j] :: st.exs })
   | _,_=>none
  | _=>none
 | _=>none
theorem x61a_ok:XOk Try.prog 61 x61a:=by
 refine ⟨fun {F st st' args av} h=>?_,fun {s β F w0 st st' a w args vs av} hr h hargs hH=>?_⟩
 ·unfold x61a at h
  split at h
  ·split at h
   ·split at h
    ·cases h; exact ⟨⟨[_,_],rfl,rfl⟩,Nat.le_add_right _ _⟩
    ·cases h
   ·cases h
  ·cases h
 ·unfold x61a at h
  split at h
  ·rename_i x
   split at h
   ·rename_i r o hx
    split at h
    ·rename_i i j hrow hdec
     cases h
     obtain ⟨u,rfl,hu⟩:=avs1 hargs
     obtain ⟨⟨ca,hva,hca⟩,_⟩:=asSl_rep hx hu
     obtain ⟨hpt,li,lj⟩:=pointRow_rep hr hrow
     have e1:s (st.nx+1)=1 % pq:=hH.1
     have e0:s st.nx=onN (s i) (s j):=hH.2.1
     rw [mod_one_pq] at e1
     have hd:=hr.dec _ _ hdec
     have hon:onN (s i) (s j)=1:=by
      have hle:=onN_le (s i) (s j)
      have:s st.nx≠0:=fun e=>by rw [e] at hd; cases hd
      omega
     have hme:=meets61 w (β r).1 ((β r).2+o) ca _ _ hca hpt li lj hon
     intro o' a' next Q hn
     rw [hva]
     refine hme o' a' next Q fun v' w' ⟨bp,bx,b2,bz,hnew,hv'⟩=>hn _ _ ?_
     obtain ⟨β',g1,g2,g3⟩:=hr.point hnew (i:=i) (j:=j) (k:=st.nx+1) rfl rfl e1
     refine ⟨β',g1,⟨[_,_],hv',⟨?_,Nat.lt_succ_self _⟩,rfl,trivial⟩,g3.nums _ _⟩
     rw [at_,g2]
    ·cases h
   ·cases h
  ·cases h
end P224
/- The tables of the laws, with points read and parsed by contract. -/
namespace P224
open Go Go.RowKit Go.Proofs
set_option maxRecDepth 100000
set_option linter.unusedVariables false
noncomputable def x28:X:=X.or x28a (inlX (tabX true [] xq2) 2000 Try.f28)
theorem x28_ok:XOk Try.prog 28 x28:=X.or_ok x28a_ok (inlX_ok (tabX_ok noPrims_ok xq2_ok) 2000 Try.func28 (by kernel_rfl))
noncomputable def x61:X:=X.or x61a (inlX (tabX true pointPrims xi3) 2000 Try.f61)
theorem x61_ok:XOk Try.prog 61 x61:=X.or_ok x61a_ok (inlX_ok (tabX_ok pointPrims_ok xi3_ok) 2000 Try.func61 (by kernel_rfl))
noncomputable def xm0:List (Nat × X):=with1 (with1 ((61,x61) :: xi3) pointPrims 2000 49 Try.f49) pointPrims 2000 72 Try.f72
theorem xm0_ok:XsOk xm0:=with1_ok pointPrims_ok (with1_ok pointPrims_ok (xcons_ok x61_ok xi3_ok) Try.func49 (by kernel_rfl)) Try.func72 (by kernel_rfl)
noncomputable def xm1:List (Nat × X):=(23,x23) :: (22,x22) :: (28,x28) :: (xq2 ++ xm0)
theorem xm1_ok:XsOk xm1:=xcons_ok x23_ok (xcons_ok x22_ok (xcons_ok x28_ok (xq2_ok.app xm0_ok)))
noncomputable def xm2:List (Nat × X):=with1 (with1 (with1 (with1 xm1 pointPrims 2000 30 Try.f30) pointPrims 2000 31 Try.f31) pointPrims 2000 35 Try.f35) pointPrims 2000 34 Try.f34
theorem xm2_ok:XsOk xm2:=with1_ok pointPrims_ok (with1_ok pointPrims_ok (with1_ok pointPrims_ok (with1_ok pointPrims_ok xm1_ok Try.func30 (by kernel_rfl)) Try.func31 (by kernel_rfl)) Try.func35 (by kernel_rfl)) Try.func34 (by kernel_rfl)
noncomputable def xm3:List (Nat × X):=with1 (with1 (with1 xm2 pointPrims 2000 39 Try.f39) pointPrims 2000 37 Try.f37) pointPrims 2000 33 Try.f33
theorem xm3_ok:XsOk xm3:=with1_ok pointPrims_ok (with1_ok pointPrims_ok (with1_ok pointPrims_ok xm2_ok Try.func39 (by kernel_rfl)) Try.func37 (by kernel_rfl)) Try.func33 (by kernel_rfl)
noncomputable def xm4:List (Nat × X):=with1 (with1 xm3 pointPrims 2000 40 Try.f40) pointPrims 2000 38 Try.f38
theorem xm4_ok:XsOk xm4:=with1_ok pointPrims_ok (with1_ok pointPrims_ok xm3_ok Try.func40 (by kernel_rfl)) Try.func38 (by kernel_rfl)
end P224
