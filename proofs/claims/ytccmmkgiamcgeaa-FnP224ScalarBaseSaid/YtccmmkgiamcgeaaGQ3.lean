/- The reference's Sum, as a call that the executor knows. -/
import Derived.Test.YtccmmkgiamcgeaaGQ1
import Derived.Test.YtccmmkgiamcgeaaGT9
import Derived.Test.YtccmmkgiamcgeaaGL5
set_option linter.all false
namespace P224
open Go Go.RowKit Go.Proofs
set_option maxRecDepth 100000
set_option linter.unusedVariables false
def isByt (i:Nat):A0→Bool
 | .byt j _=>i == j
 | _=>false
def hasByt (st:St) (i:Nat):Bool:=st.mem.any fun e=>match lookup e.1 st.mem with
 | some l=>l.any (isByt i)
 | none=>false
def elSp (F:Fix) (st:St) (r:Nat):Option Nat:=match lookup r st.mem with
 | some (.l32 i k :: l)=>bif sameAll (.l32 i k :: l) (l32s i) && decide (F.nold≤r) && hasByt st i then some i else none
 | _=>none
section
variable {s:Nums} {β:Places} {F:Fix} {w0:World} {st:St} {a:Act} {w:World}
theorem hasByt_lt (hr:Rel F s β w0 st a w) {i:Nat} (h:hasByt st i=true):s i<pq:=by
 unfold hasByt at h
 obtain ⟨e,_,h⟩:=List.any_eq_true.1 h
 split at h
 ·rename_i l hl
  obtain ⟨x,hx,h⟩:=List.any_eq_true.1 h
  obtain ⟨_,hc⟩:=hr.mem _ _ hl
  obtain ⟨j,hj⟩:=List.getElem?_of_mem hx
  obtain ⟨v,_,hv⟩:=hc j x hj
  cases x with
  | byt m k =>
   have:=beq_iff_eq.1 h
   subst this
   exact hv.2
  | _=>cases h
 ·cases h
theorem elSp_ok (hr:Rel F s β w0 st a w) {r i:Nat} (h:elSp F st r=some i):El w (β r).1 0 (s i)∧(β r).2=0∧s i<pq∧r<st.nr:=by
 unfold elSp at h
 split at h
 ·rename_i j k l hl
  obtain ⟨hd,h⟩:=bif_some h
  cases h
  simp only [Bool.and_eq_true,decide_eq_true_eq] at hd
  obtain ⟨⟨h1,h2⟩,h3⟩:=hd
  rw [sameAll_eq h1] at hl
  obtain ⟨hrn,_⟩:=hr.mem r _ hl
  obtain ⟨_,_,f3⟩:=hr.fresh r h2 hrn
  obtain ⟨u,_,_⟩:=row_el hr hl h2 rfl (b:=(β r).1) (by rw [← f3])
  exact ⟨u,f3,hasByt_lt hr h3,hrn⟩
 ·cases h
end
def x32a:X:=fun F st args=>match args with
 | [cv,.agg [.lit (.bool false),.slc r1 0 7 7,.slc r2 0 7 7],.agg [.lit (.bool false),.slc r3 0 7 7,.slc r4 0 7 7]] =>
  match isCurve st cv,elSp F st r1,elSp F st r2,elSp F st r3,elSp F st r4 with
  | some _,some i,some j,some k,some l =>
   bif F.dec st.nx == some true && F.dec (st.nx+1) == some true then
    match F.dec (st.nx+2) with
    | some true=>some (.agg [.lit (.bool true),.lit (.slice none 0 0),.lit (.slice none 0 0)],{ st with nx:=st.nx+3,exs:=.op 21 (v4 i j k l) :: .op 20 [.v k,.v l] :: .op 20 [.v i,.v j] :: st.exs })
    | some false=>some (.agg [.lit (.bool false),.slc st.nr 0 7 7,.slc (st.nr+1) 0 7 7],
      { st with mem:=(st.nr+1,l32s (st.nx+4)) :: (st.nr,l32s (st.nx+3)) :: st.mem,nr:=st.nr+2,nx:=st.nx+5,exs:=.op 23 (v4 i j k l) :: .op 22 (v4 i j k l) :: .op 21 (v4 i j k l) :: .op 20 [.v k,.v l] :: .op 20 [.v i,.v j] :: st.exs })
    | none=>none
   else none
  | _,_,_,_,_=>none
 | _=>none
theorem spt_rep {s:Nums} {β:Places} {F:Fix} {w0:World} {st:St} {a:Act} {w:World} (hr:Rel F s β w0 st a w) {r1 r2 i j:Nat} (h1:elSp F st r1=some i) (h2:elSp F st r2=some j) (hon:onN (s i) (s j)=1) {v:Value}
  (hv:(AV.agg [.lit (.bool false),.slc r1 0 7 7,.slc r2 0 7 7]).rep s β st.nr v):SPt w v (ptN (s i) (s j)):=by
 obtain ⟨us,rfl,hul,huc⟩:=hv
 obtain ⟨e1,z1,l1,_⟩:=elSp_ok hr h1
 obtain ⟨e2,z2,l2,_⟩:=elSp_ok hr h2
 match us,hul,huc with
 | [u0,u1,u2],_,huc =>
  have k0:u0=_:=huc 0 _ u0 rfl rfl
  have k1:=(huc 1 _ u1 rfl rfl).1
  have k2:=(huc 2 _ u2 rfl rfl).1
  rw [at_,z1] at k1
  rw [at_,z2] at k2
  exact .on _ _ _ _ (by rw [k0,k1,k2]) e1 e2 l1 l2 hon
theorem NewS.is_far {w w':World} {v:Value} {p:Pt pp} (h:NewS w v w' p) (hp:p=.far):v=.agg #[.bool true,.slice none 0 0,.slice none 0 0]∧Below w.heap.size w w':=by
 cases h with
 | far hv hb=>exact ⟨hv,hb⟩
 | on bx b2 x y hv hn hx hy=>cases hp
theorem NewS.is_on {w w':World} {v:Value} {p:Pt pp} (h:NewS w v w' p) {x y:Nat} (hp:p=ptN x y) (hx:x<pq) (hy:y<pq):∃ bx b2,v=.agg #[.bool false,.slice (some ⟨bx,0,none⟩) 7 7,.slice (some ⟨b2,0,none⟩) 7 7]∧NewEls w x y bx b2 w':=by
 cases h with
 | far hv hb=>cases hp
 | on bx b2 x' y' hv hn hx' hy' =>
  obtain ⟨rfl,rfl⟩:=ptN_inj (lt_pp hx') (lt_pp hy') (lt_pp hx) (lt_pp hy) hp
  exact ⟨bx,b2,hv,hn⟩
theorem x32a_ok:XOk Try.prog 32 x32a:=by
 refine ⟨fun {F st st' args av} h=>?_,fun {s β F w0 st st' a w args vs av} hr h hargs hH=>?_⟩
 ·unfold x32a at h
  split at h
  ·split at h
   ·obtain ⟨_,h⟩:=bif_some h
    split at h
    ·cases h; exact ⟨⟨[_,_,_],rfl,rfl⟩,Nat.le_refl _⟩
    ·cases h; exact ⟨⟨[_,_,_,_,_],rfl,rfl⟩,Nat.le_add_right _ _⟩
    ·cases h
   ·cases h
  ·cases h
 ·unfold x32a at h
  split at h
  ·rename_i cv r1 r2 r3 r4
   split at h
   ·rename_i q i j k l hcv h1 h2 h3 h4
    obtain ⟨hd,h⟩:=bif_some h
    simp only [Bool.and_eq_true,beq_iff_eq] at hd
    obtain ⟨hd1,hd2⟩:=hd
    obtain ⟨u0,u1,u2,rfl,hu0,hu1,hu2⟩:=avs3 hargs
    obtain ⟨rf,of⟩:=q
    obtain ⟨c0,c1,c2⟩:=isCurve_rep hr hcv hu0
    obtain ⟨_,_,l1,_⟩:=elSp_ok hr h1
    obtain ⟨_,_,l2,_⟩:=elSp_ok hr h2
    obtain ⟨_,_,l3,_⟩:=elSp_ok hr h3
    obtain ⟨_,_,l4,_⟩:=elSp_ok hr h4
    have d1:=hr.dec _ _ hd1
    have d2:=hr.dec _ _ hd2
    have main:onN (s i) (s j)=1→onN (s k) (s l)=1→Meets Try.prog 32 #[u0,u1,u2] w fun r w'=>NewS w r w' (addN (s i) (s j) (s k) (s l)):=fun o1 o2=>by
     rw [c0]
     exact meets32 w _ _ _ _ c1 (spt_rep hr h1 h2 o1 hu1) (spt_rep hr h3 h4 o2 hu2) l1 l2 l3 l4
    split at h
    ·rename_i hd3
     cases h
     have d3:=hr.dec _ _ hd3
     have e1:s st.nx=onN (s i) (s j):=hH.2.2.1
     have e2:s (st.nx+1)=onN (s k) (s l):=hH.2.1
     have e3:s (st.nx+2)=farOf (addN (s i) (s j) (s k) (s l)):=hH.1
     rw [d1] at e1
     rw [d2] at e2
     rw [d3] at e3
     have hme:=main e1.symm e2.symm
     intro o' a' next Q hn
     refine hme o' a' next Q fun r w' hnew=>hn _ _ ?_
     rcases farOf_cases (addN (s i) (s j) (s k) (s l)) with ⟨_,g⟩|⟨g,_⟩
     ·obtain ⟨hv,hb⟩:=hnew.is_far g
      refine ⟨β,Agree.refl _ _,⟨[_,_,_],hv,rfl,fun k a x ha hx=>?_⟩,(hr.kept hb).nums _ _⟩
      match k,ha,hx with
      | 0,ha,hx=>cases ha; cases hx; exact rfl
      | 1,ha,hx=>cases ha; cases hx; exact rfl
      | 2,ha,hx=>cases ha; cases hx; exact rfl
      | k+3,ha,hx=>cases ha
     ·rw [g] at e3; cases e3
    ·rename_i hd3
     cases h
     have d3:=hr.dec _ _ hd3
     have e1:s st.nx=onN (s i) (s j):=hH.2.2.2.2.1
     have e2:s (st.nx+1)=onN (s k) (s l):=hH.2.2.2.1
     have e3:s (st.nx+2)=farOf (addN (s i) (s j) (s k) (s l)):=hH.2.2.1
     have ex:s (st.nx+3)=xOf (addN (s i) (s j) (s k) (s l)):=hH.2.1
     have ey:s (st.nx+4)=yOf (addN (s i) (s j) (s k) (s l)):=hH.1
     rw [d1] at e1
     rw [d2] at e2
     rw [d3] at e3
     have hme:=main e1.symm e2.symm
     intro o' a' next Q hn
     refine hme o' a' next Q fun r w' hnew=>hn _ _ ?_
     rcases farOf_cases (addN (s i) (s j) (s k) (s l)) with ⟨g,_⟩|⟨_,g⟩
     ·rw [g] at e3; cases e3
     ·obtain ⟨bx,b2,hv,hels⟩:=hnew.is_on g (xOf_lt _) (yOf_lt _)
      obtain ⟨β',g1,g2,g3,g4⟩:=hr.els hels ex ey
      refine ⟨β',g1,⟨[_,_,_],hv,rfl,fun k a x ha hx=>?_⟩,g4.nums _ _⟩
      match k,ha,hx with
      | 0,ha,hx=>cases ha; cases hx; exact rfl
      | 1,ha,hx=>cases ha; cases hx; exact ⟨by rw [at_,g2],Nat.lt_succ_of_lt (Nat.lt_succ_self _)⟩
      | 2,ha,hx=>cases ha; cases hx; exact ⟨by rw [at_,g3],Nat.lt_succ_self _⟩
      | k+3,ha,hx=>cases ha
    ·cases h
   ·cases h
  ·cases h
noncomputable def x32:X:=X.or x32a (inlX (tabX true [] xq2) 2000 Try.f32)
theorem x32_ok:XOk Try.prog 32 x32:=X.or_ok x32a_ok (inlX_ok (tabX_ok noPrims_ok xq2_ok) 2000 Try.func32 (by kernel_rfl))
end P224
/- The laws' table, with Sum and the package's Add by contract. -/
namespace P224
open Go Go.RowKit Go.Proofs
set_option maxRecDepth 100000
set_option linter.unusedVariables false
noncomputable def xy0:List (Nat × X):=(35,x35) :: (32,x32) :: (28,X.or x28g x28) :: xm1
theorem xy0_ok:XsOk xy0:=xcons_ok x35_ok (xcons_ok x32_ok (xcons_ok (X.or_ok x28g_ok x28_ok) xm1_ok))
end P224
/- Laws with two slices of bytes, where one is no point or too long. -/
namespace P224
open Go Go.RowKit Go.Proofs
set_option maxRecDepth 100000
set_option linter.unusedVariables false
end P224
/- The package's Double of a point by its bytes, into a new one and into itself. PRINTED BY A PROGRAM OF MY OWN (gen/mk30.py). -/
namespace P224
open Go Go.RowKit Go.Proofs
set_option maxRecDepth 100000
set_option linter.unusedVariables false
theorem dbl_nums {X1 Y1 Z1:Nat} {p:Pt pp} (hp:OnC bb p) (ht:Rep (toTri pp (X1,Y1,Z1)) p) {X Y Z:Nat}
  (hX:X=sxN pq bq X1 Y1 Z1 X1 Y1 Z1) (hY:Y=syN pq bq X1 Y1 Z1 X1 Y1 Z1) (hZ:Z=8*(Y1*Y1*Y1)*Z1 % pq) :
  (padd p p=.far→Z=0)∧(padd p p≠.far→Z≠0∧X*finvq Z % pq=xOf (padd p p)∧Y*finvq Z % pq=yOf (padd p p)):=by
 rcases dbl_aff hp ht hX hY hZ with ⟨h1,h2,h3⟩|⟨h1,h2,h3,h4,h5⟩
 ·exact ⟨fun _=>h3,fun h=>absurd h2 h⟩
 ·exact ⟨fun h=>(by rw [h] at h1; cases h1),fun _=>⟨h3,h4,h5⟩⟩
theorem dbl_far {x y:Nat} (hy:y<pq) (hon:onN x y=1):padd (ptN x y) (ptN x y)≠.far:=by
 have hc:=onN_on hon
 have hy0:y≠0:=fun e=>fine.y_ne hc (by rw [e]; rfl)
 intro h
 have h1:¬ (fi pp x≠fi pp x):=fun h=>h rfl
 have h2:¬ (fi pp y≠fi pp y∨fi pp y=0):=fun h=>by
  rcases h with h | h
  ·exact h rfl
  ·exact fi_ne (lt_pp hy) hy0 h
 unfold ptN padd at h
 simp only [h1,h2,if_false] at h
 cases h
def ex30N:List Ex:=[
.fmul (.v 9) (.v 14),
.fcst 0,
.fmul (.v 8) (.v 14),
.fcst 0,
.finv (.v 10),
.fcst 0,
.feq (.v 11) (.c 1),
.feq (.v 10) (.c 0),
.op 18 [(.v 1),(.v 3)],
.op 16 [(.v 0),(.v 1),(.v 3),(.v 0),(.v 1),(.v 3)],
.op 15 [(.v 0),(.v 1),(.v 3),(.v 0),(.v 1),(.v 3)],
.fcst 0,
.fcst 1,
.fcst 0,
.fcst 0,
.fcst 1,
.op 20 [(.v 0),(.v 1)]]
def dec30N:List (Nat × Bool):=[(2,true),(11,false),(12,false)]
def fix30N:Fix:=fixD 17 1 [] [] dec30N
def br30N:BriefR:=⟨.ret,19,ex30N,[],[.one (.slc 9 0 57 57),.one (.lit (.bool true))],[some (ptRow 16 18)]⟩
theorem run30N:briefR (tabX true pointPrims xm4) Try.f30 [9] (runF (tabX true pointPrims xm4) fix30N 3000 Try.f30 (startSt [.one (.sl 0 0 57)] [(0,ptRow 0 1)] 2 1))=some br30N:=by kernel_rfl
theorem law30N {s:Nums} {x0 y0:Nat} (g0:s 0=x0) (g1:s 1=y0) (lx0:x0<pq) (ly0:y0<pq) (hon0:onN x0 y0=1) (hfar:padd (ptN x0 y0) (ptN x0 y0)≠.far) (h:Holds s 19 ex30N):s 2=1∧s 11=0∧s 12=0∧s 16=xOf (padd (ptN x0 y0) (ptN x0 y0))∧s 18=yOf (padd (ptN x0 y0) (ptN x0 y0)):=by
 obtain ⟨h18,h17,h16,h15,h14,h13,h12,h11,h10,h9,h8,h7,h6,h5,h4,h3,h2,_⟩:=h
 have e18:s 18=s 9*s 14 % pq:=h18
 have e17:s 17=0:=(show s 17=0 % pq from h17).trans (Nat.zero_mod _)
 have e16:s 16=s 8*s 14 % pq:=h16
 have e15:s 15=0:=(show s 15=0 % pq from h15).trans (Nat.zero_mod _)
 have e14:s 14=finvq (s 10):=h14
 have e13:s 13=0:=(show s 13=0 % pq from h13).trans (Nat.zero_mod _)
 have e12:s 12=if s 11=1 then 1 else 0:=h12
 have e11:s 11=if s 10=0 then 1 else 0:=h11
 have e10:s 10=8*(s 1*s 1*s 1)*s 3 % pq:=h10
 have e9:s 9=syN pq bq (s 0) (s 1) (s 3) (s 0) (s 1) (s 3):=h9
 have e8:s 8=sxN pq bq (s 0) (s 1) (s 3) (s 0) (s 1) (s 3):=h8
 have e7:s 7=0:=(show s 7=0 % pq from h7).trans (Nat.zero_mod _)
 have e6:s 6=1:=(show s 6=1 % pq from h6).trans mod_one_pq
 have e5:s 5=0:=(show s 5=0 % pq from h5).trans (Nat.zero_mod _)
 have e4:s 4=0:=(show s 4=0 % pq from h4).trans (Nat.zero_mod _)
 have e3:s 3=1:=(show s 3=1 % pq from h3).trans mod_one_pq
 have e2:s 2=onN (s 0) (s 1):=h2
 rw [g0,g1,e3] at e8 e9
 rw [g1,e3] at e10
 have key:=dbl_nums (onN_on hon0) (rep_one fine x0 y0) e8 e9 e10
 obtain ⟨k0,k1,k2⟩:=key.2 hfar
 rw [if_neg k0] at e11
 rw [if_neg (by rw [e11]; decide)] at e12
 rw [e14,k1] at e16
 rw [e14,k2] at e18
 rw [g0,g1,hon0] at e2
 exact ⟨e2,e11,e12,e16,e18⟩
def ex30f:List Ex:=[
.feq (.v 15) (.c 1),
.feq (.v 14) (.c 0),
.op 18 [(.v 6),(.v 7)],
.op 16 [(.v 4),(.v 6),(.v 7),(.v 4),(.v 6),(.v 7)],
.op 15 [(.v 4),(.v 6),(.v 7),(.v 4),(.v 6),(.v 7)],
.fcst 0,
.fcst 1,
.fcst 0,
.fcst 0,
.fcst 0,
.fcst 1,
.fcst 0,
.fcst 0,
.fcst 0,
.fcst 1,
.fcst 0,
.fcst 0]
def dec30f:List (Nat × Bool):=[(15,true),(16,true)]
def fix30f:Fix:=fixD 17 1 [] [] dec30f
def br30f:BriefR:=⟨.ret,17,ex30f,[],[.one (.slc 15 0 1 57),.one (.lit (.bool true))],[some (farRow)]⟩
theorem run30f:briefR (tabX true pointPrims xm4) Try.f30 [15] (runF (tabX true pointPrims xm4) fix30f 3000 Try.f30 (startSt [.one (.sl 0 0 1)] [(0,[.lit (.int .u8 0)])] 0 1))=some br30f:=by kernel_rfl
theorem law30f {s:Nums} (hfar:padd (.far:Pt pp) .far=.far) (h:Holds s 17 ex30f):s 15=1∧s 16=1:=by
 obtain ⟨h16,h15,h14,h13,h12,h11,h10,h9,h8,h7,h6,h5,h4,h3,h2,h1,h0,_⟩:=h
 have e16:s 16=if s 15=1 then 1 else 0:=h16
 have e15:s 15=if s 14=0 then 1 else 0:=h15
 have e14:s 14=8*(s 6*s 6*s 6)*s 7 % pq:=h14
 have e13:s 13=syN pq bq (s 4) (s 6) (s 7) (s 4) (s 6) (s 7):=h13
 have e12:s 12=sxN pq bq (s 4) (s 6) (s 7) (s 4) (s 6) (s 7):=h12
 have e11:s 11=0:=(show s 11=0 % pq from h11).trans (Nat.zero_mod _)
 have e10:s 10=1:=(show s 10=1 % pq from h10).trans mod_one_pq
 have e9:s 9=0:=(show s 9=0 % pq from h9).trans (Nat.zero_mod _)
 have e8:s 8=0:=(show s 8=0 % pq from h8).trans (Nat.zero_mod _)
 have e7:s 7=0:=(show s 7=0 % pq from h7).trans (Nat.zero_mod _)
 have e6:s 6=1:=(show s 6=1 % pq from h6).trans mod_one_pq
 have e5:s 5=0:=(show s 5=0 % pq from h5).trans (Nat.zero_mod _)
 have e4:s 4=0:=(show s 4=0 % pq from h4).trans (Nat.zero_mod _)
 have e3:s 3=0:=(show s 3=0 % pq from h3).trans (Nat.zero_mod _)
 have e2:s 2=1:=(show s 2=1 % pq from h2).trans mod_one_pq
 have e1:s 1=0:=(show s 1=0 % pq from h1).trans (Nat.zero_mod _)
 have e0:s 0=0:=(show s 0=0 % pq from h0).trans (Nat.zero_mod _)
 rw [e4,e6,e7] at e12 e13
 rw [e6,e7] at e14
 have key:=dbl_nums far_on (rep_zero fine) e12 e13 e14
 have k0:=key.1 hfar
 rw [if_pos k0] at e15
 rw [if_pos e15] at e16
 exact ⟨e15,e16⟩
def ex31N:List Ex:=[
.fmul (.v 5) (.v 10),
.fcst 0,
.fmul (.v 4) (.v 10),
.fcst 0,
.finv (.v 6),
.fcst 0,
.feq (.v 7) (.c 1),
.feq (.v 6) (.c 0),
.op 18 [(.v 1),(.v 3)],
.op 16 [(.v 0),(.v 1),(.v 3),(.v 0),(.v 1),(.v 3)],
.op 15 [(.v 0),(.v 1),(.v 3),(.v 0),(.v 1),(.v 3)],
.fcst 1,
.op 20 [(.v 0),(.v 1)]]
def dec31N:List (Nat × Bool):=[(2,true),(7,false),(8,false)]
def fix31N:Fix:=fixD 17 1 [] [] dec31N
def br31N:BriefR:=⟨.ret,15,ex31N,[],[.one (.slc 5 0 57 57),.one (.lit (.bool true))],[some (ptRow 12 14)]⟩
theorem run31N:briefR (tabX true pointPrims xm4) Try.f31 [5] (runF (tabX true pointPrims xm4) fix31N 3000 Try.f31 (startSt [.one (.sl 0 0 57)] [(0,ptRow 0 1)] 2 1))=some br31N:=by kernel_rfl
theorem law31N {s:Nums} {x0 y0:Nat} (g0:s 0=x0) (g1:s 1=y0) (lx0:x0<pq) (ly0:y0<pq) (hon0:onN x0 y0=1) (hfar:padd (ptN x0 y0) (ptN x0 y0)≠.far) (h:Holds s 15 ex31N):s 2=1∧s 7=0∧s 8=0∧s 12=xOf (padd (ptN x0 y0) (ptN x0 y0))∧s 14=yOf (padd (ptN x0 y0) (ptN x0 y0)):=by
 obtain ⟨h14,h13,h12,h11,h10,h9,h8,h7,h6,h5,h4,h3,h2,_⟩:=h
 have e14:s 14=s 5*s 10 % pq:=h14
 have e13:s 13=0:=(show s 13=0 % pq from h13).trans (Nat.zero_mod _)
 have e12:s 12=s 4*s 10 % pq:=h12
 have e11:s 11=0:=(show s 11=0 % pq from h11).trans (Nat.zero_mod _)
 have e10:s 10=finvq (s 6):=h10
 have e9:s 9=0:=(show s 9=0 % pq from h9).trans (Nat.zero_mod _)
 have e8:s 8=if s 7=1 then 1 else 0:=h8
 have e7:s 7=if s 6=0 then 1 else 0:=h7
 have e6:s 6=8*(s 1*s 1*s 1)*s 3 % pq:=h6
 have e5:s 5=syN pq bq (s 0) (s 1) (s 3) (s 0) (s 1) (s 3):=h5
 have e4:s 4=sxN pq bq (s 0) (s 1) (s 3) (s 0) (s 1) (s 3):=h4
 have e3:s 3=1:=(show s 3=1 % pq from h3).trans mod_one_pq
 have e2:s 2=onN (s 0) (s 1):=h2
 rw [g0,g1,e3] at e4 e5
 rw [g1,e3] at e6
 have key:=dbl_nums (onN_on hon0) (rep_one fine x0 y0) e4 e5 e6
 obtain ⟨k0,k1,k2⟩:=key.2 hfar
 rw [if_neg k0] at e7
 rw [if_neg (by rw [e7]; decide)] at e8
 rw [e10,k1] at e12
 rw [e10,k2] at e14
 rw [g0,g1,hon0] at e2
 exact ⟨e2,e7,e8,e12,e14⟩
def ex31f:List Ex:=[
.feq (.v 11) (.c 1),
.feq (.v 10) (.c 0),
.op 18 [(.v 6),(.v 7)],
.op 16 [(.v 4),(.v 6),(.v 7),(.v 4),(.v 6),(.v 7)],
.op 15 [(.v 4),(.v 6),(.v 7),(.v 4),(.v 6),(.v 7)],
.fcst 0,
.fcst 1,
.fcst 0,
.fcst 0,
.fcst 0,
.fcst 1,
.fcst 0,
.fcst 0]
def dec31f:List (Nat × Bool):=[(11,true),(12,true)]
def fix31f:Fix:=fixD 17 1 [] [] dec31f
def br31f:BriefR:=⟨.ret,13,ex31f,[],[.one (.slc 11 0 1 57),.one (.lit (.bool true))],[some (farRow)]⟩
theorem run31f:briefR (tabX true pointPrims xm4) Try.f31 [11] (runF (tabX true pointPrims xm4) fix31f 3000 Try.f31 (startSt [.one (.sl 0 0 1)] [(0,[.lit (.int .u8 0)])] 0 1))=some br31f:=by kernel_rfl
theorem law31f {s:Nums} (hfar:padd (.far:Pt pp) .far=.far) (h:Holds s 13 ex31f):s 11=1∧s 12=1:=by
 obtain ⟨h12,h11,h10,h9,h8,h7,h6,h5,h4,h3,h2,h1,h0,_⟩:=h
 have e12:s 12=if s 11=1 then 1 else 0:=h12
 have e11:s 11=if s 10=0 then 1 else 0:=h11
 have e10:s 10=8*(s 6*s 6*s 6)*s 7 % pq:=h10
 have e9:s 9=syN pq bq (s 4) (s 6) (s 7) (s 4) (s 6) (s 7):=h9
 have e8:s 8=sxN pq bq (s 4) (s 6) (s 7) (s 4) (s 6) (s 7):=h8
 have e7:s 7=0:=(show s 7=0 % pq from h7).trans (Nat.zero_mod _)
 have e6:s 6=1:=(show s 6=1 % pq from h6).trans mod_one_pq
 have e5:s 5=0:=(show s 5=0 % pq from h5).trans (Nat.zero_mod _)
 have e4:s 4=0:=(show s 4=0 % pq from h4).trans (Nat.zero_mod _)
 have e3:s 3=0:=(show s 3=0 % pq from h3).trans (Nat.zero_mod _)
 have e2:s 2=1:=(show s 2=1 % pq from h2).trans mod_one_pq
 have e1:s 1=0:=(show s 1=0 % pq from h1).trans (Nat.zero_mod _)
 have e0:s 0=0:=(show s 0=0 % pq from h0).trans (Nat.zero_mod _)
 rw [e4,e6,e7] at e8 e9
 rw [e6,e7] at e10
 have key:=dbl_nums far_on (rep_zero fine) e8 e9 e10
 have k0:=key.1 hfar
 rw [if_pos k0] at e11
 rw [if_pos e11] at e12
 exact ⟨e11,e12⟩
theorem meets30 (w:World) (v1:Value) {p:Pt pp} (h1:PtAt w v1 p):Meets Try.prog 30 #[v1] w (OutPt w (padd p p)):=by
 refine meets_of_calls Try.func30 (by kernel_rfl) (by kernel_rfl) ?_
 cases h1 with
 | far b0 o0 c0 hv0 hc0 hp0 =>
  subst hv0
  have lt0:b0<w.heap.size:=World.block_lt_of_cell? w _ hp0
  have hfar:padd (.far:Pt pp) .far=.far:=rfl
  refine calls_briefR (F:=fix30f) (tabX_ok pointPrims_ok xm4_ok) run30f Try.func30 Try.ntmps30 rfl (by decide +kernel) (by decide +kernel) (by decide +kernel) (show 1≤17 by decide) (show 1<4095 by decide) (fun _=>0) (fun r=> (b0,o0))
   (vals:=[_]) (fun s hs=>⟨⟨c0,hc0,rfl,show 0<1 by decide⟩,trivial⟩) (fun s hs=>⟨show 0<1 by decide,⟨⟨_,hp0,rfl⟩,trivial⟩,trivial⟩) (fun r l hl hr=>by cases hr) (fun r _=>lt0) (fun r q _ _ h=>by cases h) ?_ ?_
  ·intro s hs hH i bb hb
   obtain ⟨q0,q1⟩:=law30f hfar hH
   have:=findT_mem (show findT i dec30f=some bb from hb)
   simp only [dec30f,List.mem_cons,List.not_mem_nil,or_false,Prod.mk.injEq] at this
   rcases this with ⟨rfl,rfl⟩|⟨rfl,rfl⟩ <;> assumption
  ·intro s hs hH st' β' a' w' v hv hm hag hr hbe
   obtain ⟨q0,q1⟩:=law30f hfar hH
   injection (show [lookup 15 st'.mem]=[some farRow] from hm) with hm
   exact ⟨_,rfl,_,out_far hv,(newAt_far hr (l:=List.replicate 56 (.lit (.int .u8 0))) hm (show 1≤15 by decide) hbe rfl).of_eq hfar⟩
 | on b0 o0 c0 x0 y0 hv0 hc0 hp0 lx0 ly0 hon0 =>
  subst hv0
  have lt0:b0<w.heap.size:=World.block_lt_of_cell? w _ (hp0 0 4 rfl)
  have hfar:=dbl_far ly0 hon0
  refine calls_briefR (F:=fix30N) (tabX_ok pointPrims_ok xm4_ok) run30N Try.func30 Try.ntmps30 rfl (by decide +kernel) (by decide +kernel) (by decide +kernel) (show 1≤17 by decide) (show 1<4095 by decide) (fun i=>if i=0 then x0 else y0) (fun r=> (b0,o0))
   (vals:=[_]) (fun s hs=>⟨⟨c0,hc0,rfl,show 0<1 by decide⟩,trivial⟩) (fun s hs=>⟨show 0<1 by decide,ptRow_row rfl hp0 (hs 0 (by decide)) (hs 1 (by decide)) lx0 ly0,trivial⟩) (fun r l hl hr=>by cases hr) (fun r _=>lt0) (fun r q _ _ h=>by cases h) ?_ ?_
  ·intro s hs hH i bb hb
   obtain ⟨q0,q1,q2,q3,q4⟩:=law30N (hs 0 (by decide)) (hs 1 (by decide)) lx0 ly0 hon0 hfar hH
   have:=findT_mem (show findT i dec30N=some bb from hb)
   simp only [dec30N,List.mem_cons,List.not_mem_nil,or_false,Prod.mk.injEq] at this
   rcases this with ⟨rfl,rfl⟩|⟨rfl,rfl⟩|⟨rfl,rfl⟩ <;> assumption
  ·intro s hs hH st' β' a' w' v hv hm hag hr hbe
   obtain ⟨q0,q1,q2,q3,q4⟩:=law30N (hs 0 (by decide)) (hs 1 (by decide)) lx0 ly0 hon0 hfar hH
   injection (show [lookup 9 st'.mem]=[some (ptRow 16 18)] from hm) with hm
   exact ⟨_,rfl,_,out_on hv,(newAt_on hr hm (show 1≤9 by decide) hbe q3 q4 (xOf_lt _) (yOf_lt _) rfl).of_eq (on_eq hfar)⟩
theorem meets31 (w:World) (v1:Value) {p:Pt pp} (h1:PtAt w v1 p):Meets Try.prog 31 #[v1] w (OutPt w (padd p p)):=by
 refine meets_of_calls Try.func31 (by kernel_rfl) (by kernel_rfl) ?_
 cases h1 with
 | far b0 o0 c0 hv0 hc0 hp0 =>
  subst hv0
  have lt0:b0<w.heap.size:=World.block_lt_of_cell? w _ hp0
  have hfar:padd (.far:Pt pp) .far=.far:=rfl
  refine calls_briefR (F:=fix31f) (tabX_ok pointPrims_ok xm4_ok) run31f Try.func31 Try.ntmps31 rfl (by decide +kernel) (by decide +kernel) (by decide +kernel) (show 1≤17 by decide) (show 1<4095 by decide) (fun _=>0) (fun r=> (b0,o0))
   (vals:=[_]) (fun s hs=>⟨⟨c0,hc0,rfl,show 0<1 by decide⟩,trivial⟩) (fun s hs=>⟨show 0<1 by decide,⟨⟨_,hp0,rfl⟩,trivial⟩,trivial⟩) (fun r l hl hr=>by cases hr) (fun r _=>lt0) (fun r q _ _ h=>by cases h) ?_ ?_
  ·intro s hs hH i bb hb
   obtain ⟨q0,q1⟩:=law31f hfar hH
   have:=findT_mem (show findT i dec31f=some bb from hb)
   simp only [dec31f,List.mem_cons,List.not_mem_nil,or_false,Prod.mk.injEq] at this
   rcases this with ⟨rfl,rfl⟩|⟨rfl,rfl⟩ <;> assumption
  ·intro s hs hH st' β' a' w' v hv hm hag hr hbe
   obtain ⟨q0,q1⟩:=law31f hfar hH
   injection (show [lookup 11 st'.mem]=[some farRow] from hm) with hm
   exact ⟨_,rfl,_,out_far hv,(newAt_far hr (l:=List.replicate 56 (.lit (.int .u8 0))) hm (show 1≤11 by decide) hbe rfl).of_eq hfar⟩
 | on b0 o0 c0 x0 y0 hv0 hc0 hp0 lx0 ly0 hon0 =>
  subst hv0
  have lt0:b0<w.heap.size:=World.block_lt_of_cell? w _ (hp0 0 4 rfl)
  have hfar:=dbl_far ly0 hon0
  refine calls_briefR (F:=fix31N) (tabX_ok pointPrims_ok xm4_ok) run31N Try.func31 Try.ntmps31 rfl (by decide +kernel) (by decide +kernel) (by decide +kernel) (show 1≤17 by decide) (show 1<4095 by decide) (fun i=>if i=0 then x0 else y0) (fun r=> (b0,o0))
   (vals:=[_]) (fun s hs=>⟨⟨c0,hc0,rfl,show 0<1 by decide⟩,trivial⟩) (fun s hs=>⟨show 0<1 by decide,ptRow_row rfl hp0 (hs 0 (by decide)) (hs 1 (by decide)) lx0 ly0,trivial⟩) (fun r l hl hr=>by cases hr) (fun r _=>lt0) (fun r q _ _ h=>by cases h) ?_ ?_
  ·intro s hs hH i bb hb
   obtain ⟨q0,q1,q2,q3,q4⟩:=law31N (hs 0 (by decide)) (hs 1 (by decide)) lx0 ly0 hon0 hfar hH
   have:=findT_mem (show findT i dec31N=some bb from hb)
   simp only [dec31N,List.mem_cons,List.not_mem_nil,or_false,Prod.mk.injEq] at this
   rcases this with ⟨rfl,rfl⟩|⟨rfl,rfl⟩|⟨rfl,rfl⟩ <;> assumption
  ·intro s hs hH st' β' a' w' v hv hm hag hr hbe
   obtain ⟨q0,q1,q2,q3,q4⟩:=law31N (hs 0 (by decide)) (hs 1 (by decide)) lx0 ly0 hon0 hfar hH
   injection (show [lookup 5 st'.mem]=[some (ptRow 12 14)] from hm) with hm
   exact ⟨_,rfl,_,out_on hv,(newAt_on hr hm (show 1≤5 by decide) hbe q3 q4 (xOf_lt _) (yOf_lt _) rfl).of_eq (on_eq hfar)⟩
def dblR:Option (Nat × Nat)→PR
 | none=>.far
 | some (i,j)=>.new (.op 21 (v4 i j i j)) (.op 22 (v4 i j i j)) (.op 23 (v4 i j i j))
theorem dblR_is {s:Nums} {p:Option (Nat × Nat)} (hp:Valid s p):(dblR p).is s (padd (ptOf s p) (ptOf s p)):=by
 match p with
 | none=>exact rfl
 | some (i,j)=>exact ⟨rfl,rfl,rfl⟩
def x30:X:=x1P dblR
theorem x30_ok:XOk Try.prog 30 x30:=x1P_ok (fun w v1 p h1=>meets30 w v1 h1) fun s p hp=>dblR_is hp
def x31:X:=x1P dblR
theorem x31_ok:XOk Try.prog 31 x31:=x1P_ok (fun w v1 p h1=>meets31 w v1 h1) fun s p hp=>dblR_is hp
end P224
/- The laws' table, with the package's Add and Double and the reference's Sum by contract. -/
namespace P224
open Go Go.RowKit Go.Proofs
set_option maxRecDepth 100000
set_option linter.unusedVariables false
noncomputable def with1Z (xs:List (Nat × X)) (f:Nat) (fn:Func):List (Nat × X):=(f,inlX (tabZ xs) 2000 fn) :: xs
theorem with1Z_ok {xs : List (Nat × X)} (hx : XsOk xs) {f : Nat} {fn : Func} (hf : Try.prog.funcs[f]? = some fn) (hn : (fn.name == "runtime.NumGoroutine") = false) : XsOk (with1Z xs f fn) :=
 xcons_ok (inlX_ok (tabZ_ok hx) 2000 hf hn) hx
noncomputable def xw0:List (Nat × X):=(30,x30) :: (31,x31) :: xy0
theorem xw0_ok:XsOk xw0:=xcons_ok x30_ok (xcons_ok x31_ok xy0_ok)
noncomputable def xw1:List (Nat × X):=with1Z (with1Z (with1Z (with1Z xw0 37 Try.f37) 33 Try.f33) 40 Try.f40) 38 Try.f38
theorem xw1_ok:XsOk xw1:=with1Z_ok (with1Z_ok (with1Z_ok (with1Z_ok xw0_ok Try.func37 (by kernel_rfl)) Try.func33 (by kernel_rfl)) Try.func40 (by kernel_rfl)) Try.func38 (by kernel_rfl)
end P224
/- Small facts on sums of points, as numbers. -/
namespace P224
open Go Go.RowKit Go.Proofs
set_option maxRecDepth 100000
set_option linter.unusedVariables false
end P224
