/- The reference's Read of the bytes of a point with coordinates: what it does, and as a call that the executor knows. -/
import Derived.Test.YtccmmkgiamcgeaaHT5
import Derived.Test.YtccmmkgiamcgeaaHE1
set_option linter.all false
namespace P224
open Go Go.RowKit Go.Proofs
set_option maxRecDepth 100000
set_option linter.unusedVariables false
theorem on_of {x y a6 a7 a8 a9 a10 a12 a13:Nat} (e6:a6=y*y % pq) (e7:a7=x*x % pq) (e8:a8=a7*x % pq) (e9:a9=3*x % pq) (e10:a10=(((a8:Int) - a9) % (pq:Int)).toNat) (e12:a12=(a10+bq) % pq)
  (e13:a13=if a6=a12 then 1 else 0):a13=onN x y:=by
 have f6:fi pp a6=fi pp y*fi pp y:=by rw [e6,pq_is,fi_mod,fi_mul]
 have f7:fi pp a7=fi pp x*fi pp x:=by rw [e7,pq_is,fi_mod,fi_mul]
 have f8:fi pp a8=fi pp x*fi pp x*fi pp x:=by rw [e8,pq_is,fi_mod,fi_mul,f7]
 have f9:fi pp a9=3*fi pp x:=by rw [e9,pq_is,fi_mod,fi_mul]; rfl
 have f10:fi pp a10=fi pp x*fi pp x*fi pp x - 3*fi pp x:=by rw [e10,fi_int,f8,f9]
 have f12:fi pp a12=rhs bb (fi pp x):=by rw [e12,pq_is,fi_mod,fi_add,f10]; rfl
 have l6:a6<pp:=by rw [e6]; exact Nat.mod_lt _ pos_pp
 have l12:a12<pp:=by rw [e12]; exact Nat.mod_lt _ pos_pp
 rw [e13,onN,← f6,← f12]
 by_cases h:a6=a12
 ·rw [if_pos h,if_pos (by rw [h])]
 ·rw [if_neg h,if_neg (fun e=>h (by
   have:=fi_eq.1 e
   rwa [Nat.mod_eq_of_lt l6,Nat.mod_eq_of_lt l12] at this))]
def ex28:List Ex:=[
.feq (.v 6) (.v 12),
.fadd (.v 10) (.v 11),
.fcst 18958286285566608000408668544493926415504680968679321075787234672564,
.op 14 [(.v 8),(.v 9)],
.fmul (.c 3) (.v 2),
.fmul (.v 7) (.v 2),
.fmul (.v 2) (.v 2),
.fmul (.v 3) (.v 3),
.op 4 [(.v 3),(.c pq)],
.op 4 [(.v 2),(.c pq)],
.op 2 (bs28 1),
.op 2 (bs28 0)]
def st28:St:=startSt [curveAV 0,.one (.sl 1 0 57)] [(0,foldCells),(1,ptRow 0 1)] 2 2
def fix28:Fix:=fixD 67 2 [] [] [(4,true),(5,true)]
noncomputable def br28:BriefR:=⟨.ret,14,ex28,[],[.agg [.lit (.bool false),.slc 4 0 7 7,.slc 5 0 7 7],.one (.bl 13)],[some (l32s 2),some (l32s 3)]⟩
theorem run28:briefR (tabX true [] xq2) Try.f28 [4,5] (runF (tabX true [] xq2) fix28 3000 Try.f28 st28)=some br28:=by kernel_rfl
theorem ptRow_def {i j:Nat} {x:A0} (hx:x ∈ ptRow i j):definite x=true:=by
 rw [ptRow] at hx
 rcases List.mem_cons.1 hx with rfl | hx
 ·rfl
 ·rcases List.mem_append.1 hx with hx | hx
  ·obtain ⟨k,_,rfl⟩:=List.mem_map.1 hx; rfl
  ·obtain ⟨k,_,rfl⟩:=List.mem_map.1 hx; rfl
def PtBytes (w:World) (b o x y:Nat):Prop:=∀ (k z:Nat),(pvals x y)[k]?=some z→w.cell? ⟨b,o+k,none⟩=some (.int .u8 (z:Int))
theorem ptRow_row {s:Nums} {β:Places} {n r b o i j x y:Nat} {w:World} (hβ:β r=(b,o)) (h:PtBytes w b o x y) (hi:s i=x) (hj:s j=y) (hx:x<pq) (hy:y<pq):RowOk s β n r w 0 (ptRow i j):=by
 refine row_of fun k z hz=>?_
 obtain ⟨u,hu,hrep⟩:=ptRow_rep (s:=s) (i:=i) (j:=j) (by rw [hi]; exact hx) (by rw [hj]; exact hy) k z hz
 rw [hi,hj] at hu
 refine ⟨_,?_,hrep β n⟩
 rw [at_,hβ,Nat.zero_add]
 exact h k u hu
theorem law28 {s:Nums} {x y:Nat} (h0:s 0=x) (h1:s 1=y) (hx:x<pq) (hy:y<pq) (h:Holds s 14 ex28):s 2=x∧s 3=y∧s 4=1∧s 5=1∧s 13=onN x y:=by
 obtain ⟨h13,h12,h11,h10,h9,h8,h7,h6,h5,h4,h3,h2,_⟩:=h
 have e2:s 2=x:=by
  have:s 2=ofBytes ((bs28 0).map (Wd.val s)):=h2
  rw [this,vals_bs28 (by rw [h0]; exact hx),h0]
 have e3:s 3=y:=by
  have:s 3=ofBytes ((bs28 1).map (Wd.val s)):=h3
  rw [this,vals_bs28 (by rw [h1]; exact hy),h1]
 have e4:s 4=if s 2<pq then 1 else 0:=h4
 have e5:s 5=if s 3<pq then 1 else 0:=h5
 rw [e2,if_pos hx] at e4
 rw [e3,if_pos hy] at e5
 have e6:s 6=s 3*s 3 % pq:=h6
 have e7:s 7=s 2*s 2 % pq:=h7
 have e8:s 8=s 7*s 2 % pq:=h8
 have e9:s 9=3*s 2 % pq:=h9
 have e10:s 10=(((s 8:Int) - s 9) % (pq:Int)).toNat:=h10
 have e11:s 11=bq % pq:=h11
 have e12:s 12=(s 10+s 11) % pq:=h12
 have e13:s 13=if s 6=s 12 then 1 else 0:=h13
 rw [Nat.mod_eq_of_lt bq_lt] at e11
 rw [e11] at e12
 rw [e2] at e7 e8 e9
 rw [e3] at e6
 exact ⟨e2,e3,e4,e5,on_of e6 e7 e8 e9 e10 e12 e13⟩
theorem row_el {s:Nums} {β:Places} {F:Fix} {w0:World} {st:St} {a:Act} {w:World} (hr:Rel F s β w0 st a w) {r i x b:Nat} (hl:lookup r st.mem=some (l32s i)) (hn:F.nold≤r) (hs:s i=x) (hb:β r=(b,0)) :
  El w b 0 x∧(∀ k,k<7→w.frozen? ⟨b,k,none⟩=false)∧r<st.nr:=by
 obtain ⟨h1,hc⟩:=hr.mem r _ hl
 have key:∀ k,k<7→w.cell? ⟨b,0+k,none⟩=some (.int .i64 (D x k:Int))∧x<2 ^ 224:=fun k hk=>by
  obtain ⟨v,u1,u2⟩:=hc k (.l32 i k) (by rw [l32s,List.getElem?_map,List.getElem?_range hk]; rfl)
  have u3:v=.int .i64 ((s i / 2 ^ (32*k) % 2 ^ 32:Nat):Int):=u2.1
  rw [u3,at_,hb,hs] at u1
  exact ⟨u1,by rw [← hs]; exact u2.2⟩
 refine ⟨⟨fun k hk=>(key k hk).1,(key 0 (by decide)).2⟩,fun k hk=>?_,h1⟩
 have:=hr.frz r _ hl (.inl hn) k (by simp [l32s]; exact hk)
 rw [at_,hb,Nat.zero_add] at this
 exact this
theorem meets28 (w:World) (bf of b o c x y:Nat) (hc:57≤c) (hfo:FoldsAt w bf of) (hp:PtBytes w b o x y) (hx:x<pq) (hy:y<pq) :
  Meets Try.prog 28 #[curveV bf of,.slice (some ⟨b,o,none⟩) 57 c] w fun v w'=>∃ bx b2,NewEls w x y bx b2 w'∧v=.tuple #[.agg #[.bool false,.slice (some ⟨bx,0,none⟩) 7 7,.slice (some ⟨b2,0,none⟩) 7 7],.bool (onN x y == 1)]:=by
 refine meets_of_calls Try.func28 (by kernel_rfl) (by kernel_rfl) ?_
 let β:Places:=fun r=>if r=0 then (bf,of) else (b,o)
 let s0:Nums:=fun i=>if i=0 then x else y
 have hlt:b<w.heap.size:=World.block_lt_of_cell? w _ (hp 0 4 rfl)
 refine calls_briefR (F:=fix28) (tabX_ok noPrims_ok xq2_ok) run28 Try.func28 Try.ntmps28 rfl (by decide +kernel) (by decide +kernel) (by decide +kernel) (show 2≤67 by decide) (show 2<4095 by decide) s0 β
  (vals:=[curveV bf of,.slice (some ⟨b,o,none⟩) 57 c]) (fun s hs=>⟨curve_rep rfl (show 0<2 by decide),⟨c,hc,rfl,show 1<2 by decide⟩,trivial⟩)
  (fun s hs=>⟨show 0<2 by decide,fold_row rfl hfo,show 1<2 by decide,ptRow_row rfl hp (hs 0 (by decide)) (hs 1 (by decide)) hx hy,trivial⟩) (fun r l hl hr=>by cases hr) (fun r _=>by
   show (if r=0 then (bf,of) else (b,o)).1<_
   split
   ·exact hfo.lt
   ·exact hlt) (fun r q _ _ h=>by cases h) ?_ ?_
 ·intro s hs hH i bb hb
  obtain ⟨_,_,e4,e5,_⟩:=law28 (hs 0 (by decide)) (hs 1 (by decide)) hx hy hH
  have hb':findT i [(4,true),(5,true)]=some bb:=hb
  have:=findT_mem hb'
  simp only [List.mem_cons,List.not_mem_nil,or_false,Prod.mk.injEq] at this
  rcases this with ⟨rfl,rfl⟩|⟨rfl,rfl⟩
  ·exact e4
  ·exact e5
 ·intro s hs hH st' β' a' w' v hv hm hag hr hbe
  obtain ⟨e2,e3,_,_,e13⟩:=law28 (hs 0 (by decide)) (hs 1 (by decide)) hx hy hH
  have hm':[lookup 4 st'.mem,lookup 5 st'.mem]=[some (l32s 2),some (l32s 3)]:=hm
  injection hm' with m1 hm'
  injection hm' with m2 _
  have n1:fix28.nold≤4:=by decide
  have n2:fix28.nold≤5:=by decide
  obtain ⟨p1,_⟩:=hr.mem 4 _ m1
  obtain ⟨p2,_⟩:=hr.mem 5 _ m2
  obtain ⟨f1,f2,f3⟩:=hr.fresh 4 n1 p1
  obtain ⟨g1,g2,g3⟩:=hr.fresh 5 n2 p2
  have hd:=hr.dist 4 5 n1 n2 p1 p2 (by decide)
  obtain ⟨u1,u2,_⟩:=row_el hr m1 n1 e2 (b:=(β' 4).1) (by rw [← f3])
  obtain ⟨v1,v2,_⟩:=row_el hr m2 n2 e3 (b:=(β' 5).1) (by rw [← g3])
  obtain ⟨vs,rfl,hvl⟩:=hv
  match vs,hvl with
  | [w1,w2],⟨hw1,hw2,_⟩ =>
  obtain ⟨us,rfl,hul,huc⟩:=hw1
  match us,hul,huc with
  | [z0,z1,z2],_,huc =>
  have k0:z0=.bool false:=huc 0 _ z0 rfl rfl
  have k1:=(huc 1 _ z1 rfl rfl).1
  have k2:=(huc 2 _ z2 rfl rfl).1
  have k3:w2=.bool (s 13 == 1):=hw2.1
  refine ⟨_,rfl,(β' 4).1,(β' 5).1,⟨f1,f2,g1,g2,hd,u1,v1,u2,v2,hbe⟩,?_⟩
  rw [k0,k1,k2,k3,e13,at_,at_,f3,g3]
  rfl
def x28a:X:=fun F st args=>match args with
 | [cv,.one x]=>match isCurve st cv,x.asSl with
  | some _,some (r,o,57)=>match cellsAt st.mem r o 57 with
   | some (t :: l)=>match l.head?,l.getLast? with
    | some (.byt i _),some (.byt j _)=>bif sameAll (t :: l) (ptRow i j) then some (.tup [.agg [.lit (.bool false),.slc st.nr 0 7 7,.slc (st.nr+1) 0 7 7],.one (.bl st.nx)],
      { st with mem:=(st.nr+1,l32s j) :: (st.nr,l32s i) :: st.mem,nr:=st.nr+2,nx:=st.nx+1,exs:=.op 20 [.v i,.v j] :: st.exs }) else none
    | _,_=>none
   | _=>none
  | _,_=>none
 | _=>none
theorem onN_le (x y:Nat):onN x y≤1:=by
 unfold onN
 split <;> decide
theorem x28a_ok:XOk Try.prog 28 x28a:=by
 refine ⟨fun {F st st' args av} h=>?_,fun {s β F w0 st st' a w args vs av} hr h hargs hH=>?_⟩
 ·unfold x28a at h
  split at h
  ·split at h
   ·split at h
    ·split at h
     ·obtain ⟨_,h⟩:=bif_some h
      cases h; exact ⟨⟨[_],rfl,rfl⟩,Nat.le_add_right _ _⟩
     ·cases h
    ·cases h
   ·cases h
  ·cases h
 ·unfold x28a at h
  split at h
  ·rename_i cv x
   split at h
   ·rename_i q r o hcv hx
    split at h
    ·rename_i t l hl
     split at h
     ·rename_i i _ j _ _ _
      obtain ⟨hs,h⟩:=bif_some h
      cases h
      obtain ⟨u0,u,rfl,hu0,hu⟩:=avs2 hargs
      obtain ⟨rf,of⟩:=q
      obtain ⟨c0,c1,c2⟩:=isCurve_rep hr hcv hu0
      obtain ⟨⟨ca,hva,hca⟩,_⟩:=asSl_rep hx hu
      rw [sameAll_eq hs] at hl
      obtain ⟨k,hk,hlen,_,hj⟩:=cellsAt_ok (nr:=0) hl
      obtain ⟨_,hcl⟩:=hr.mem r k hk
      have get:∀ m,m<57→∀ z,(ptRow i j)[m]?=some z→∃ v,w.cell? ⟨(β r).1,(β r).2+o+m,none⟩=some v∧z.rep s β st.nr v:=fun m hm z hz=>by
       obtain ⟨v,h1,h2⟩:=hcl (o+m) z (by rw [← hj m hm]; exact hz)
       rw [at_,← Nat.add_assoc] at h1
       exact ⟨v,h1,h2⟩
      have li:s i<pq:=by
       obtain ⟨v,_,h2⟩:=get 1 (by decide) (.byt i 27) rfl
       exact h2.2
      have lj:s j<pq:=by
       obtain ⟨v,_,h2⟩:=get 29 (by decide) (.byt j 27) rfl
       exact h2.2
      have hpt:PtBytes w (β r).1 ((β r).2+o) (s i) (s j):=by
       intro m z hz
       have hm:m<57:=by
        have:=(List.getElem?_eq_some_iff.1 hz).1
        rwa [pvals_len] at this
       obtain ⟨y,hy⟩:∃ y,(ptRow i j)[m]?=some y:=⟨_,List.getElem?_eq_getElem (by rw [ptRow_len]; exact hm)⟩
       obtain ⟨v,h1,h2⟩:=get m hm y hy
       obtain ⟨z',hz',hrep⟩:=ptRow_rep li lj m y hy
       rw [hz] at hz'
       cases hz'
       have hdf:=ptRow_def (List.mem_of_getElem? hy)
       rw [h1,rep_conc hdf h2,← rep_conc hdf (hrep β st.nr)]
      have hme:=meets28 w (β rf).1 ((β rf).2+of) (β r).1 ((β r).2+o) ca _ _ hca c1 hpt li lj
      intro o' a' next Q hn
      rw [c0,hva]
      refine hme o' a' next Q fun v' w' ⟨bx,b2,hels,hv'⟩=>hn _ _ ?_
      obtain ⟨β',g1,g2,g3,g4⟩:=hr.els hels rfl rfl
      have he:s st.nx=onN (s i) (s j):=hH.1
      refine ⟨β',g1,⟨[_,_],hv',⟨[_,_,_],rfl,rfl,fun k a x ha hx=>?_⟩,⟨?_,?_⟩,trivial⟩,g4.nums _ _⟩
      ·match k,ha,hx with
       | 0,ha,hx=>cases ha; cases hx; exact rfl
       | 1,ha,hx=>cases ha; cases hx; exact ⟨by rw [at_,g2],Nat.lt_succ_of_lt (Nat.lt_succ_self _)⟩
       | 2,ha,hx=>cases ha; cases hx; exact ⟨by rw [at_,g3],Nat.lt_succ_self _⟩
       | k+3,ha,hx=>cases ha
      ·rw [he]
      ·rw [he]; exact onN_le _ _
     ·cases h
    ·cases h
   ·cases h
  ·cases h
end P224
/- The package's point out of bytes: what it does, and as a call that the executor knows. -/
namespace P224
open Go Go.RowKit Go.Proofs
set_option maxRecDepth 100000
set_option linter.unusedVariables false
structure NewPoint (w:World) (x y z bp bx b2 bz:Nat) (w':World):Prop where
 ge:w.heap.size≤bp∧w.heap.size≤bx∧w.heap.size≤b2∧w.heap.size≤bz
 lt:bp<w'.heap.size∧bx<w'.heap.size∧b2<w'.heap.size∧bz<w'.heap.size
 ne:bx≠b2∧bx≠bz∧b2≠bz∧bx≠bp∧b2≠bp∧bz≠bp
 cells:w'.cell? ⟨bp,0,none⟩=some (ptrTo bx 0)∧w'.cell? ⟨bp,1,none⟩=some (ptrTo b2 0)∧w'.cell? ⟨bp,2,none⟩=some (ptrTo bz 0)
 els:ElemAt w' bx 0 x∧ElemAt w' b2 0 y∧ElemAt w' bz 0 z
 small:x<pq∧y<pq∧z<pq
 fz:(∀ k,k<3→w'.frozen? ⟨bp,k,none⟩=false)∧(∀ k,k<4→w'.frozen? ⟨bx,k,none⟩=false)∧(∀ k,k<4→w'.frozen? ⟨b2,k,none⟩=false)∧∀ k,k<4→w'.frozen? ⟨bz,k,none⟩=false
 below:Below w.heap.size w w'
section
variable {s:Nums} {β:Places} {F:Fix} {w0:World} {st:St} {a:Act} {w:World}
end
end P224
/- The package's point out of the bytes of a point of the curve, as a call that the executor knows. -/
namespace P224
open Go Go.RowKit Go.Proofs
set_option maxRecDepth 100000
set_option linter.unusedVariables false
end P224
/- The package's point out of bytes, as a call that the executor knows. -/
namespace P224
open Go Go.RowKit Go.Proofs
set_option maxRecDepth 100000
set_option linter.unusedVariables false
end P224
/- The tables of the laws, with points read and parsed by contract. -/
namespace P224
open Go Go.RowKit Go.Proofs
set_option maxRecDepth 100000
set_option linter.unusedVariables false
noncomputable def x28:X:=X.or x28a (inlX (tabX true [] xq2) 2000 Try.f28)
theorem x28_ok:XOk Try.prog 28 x28:=X.or_ok x28a_ok (inlX_ok (tabX_ok noPrims_ok xq2_ok) 2000 Try.func28 (by kernel_rfl))
end P224
