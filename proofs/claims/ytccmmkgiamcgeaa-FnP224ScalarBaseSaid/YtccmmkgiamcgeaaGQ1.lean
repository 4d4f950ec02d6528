/- Calls that take points by their bytes and give one: as the executor knows them. -/
import Derived.Test.YtccmmkgiamcgeaaGP7
set_option linter.all false
namespace P224
open Go Go.RowKit Go.Proofs
set_option maxRecDepth 100000
set_option linter.unusedVariables false
def v4 (i j k l:Nat):List Wd:=[.v i,.v j,.v k,.v l]
def sumR:Option (Nat × Nat)→Option (Nat × Nat)→PR
 | none,none=>.far
 | none,some (i,j)=>.pt i j
 | some (i,j),none=>.pt i j
 | some (i,j),some (k,l)=>.new (.op 21 (v4 i j k l)) (.op 22 (v4 i j k l)) (.op 23 (v4 i j k l))
def Valid (s:Nums) (p:Option (Nat × Nat)):Prop:=∀ i j,p=some (i,j)→s i<pq∧s j<pq∧onN (s i) (s j)=1
theorem padd_far_r (p:Pt pp):padd p .far=p:=by cases p <;> rfl
theorem sumR_is {s:Nums} {p q:Option (Nat × Nat)} (hp:Valid s p) (hq:Valid s q):(sumR p q).is s (padd (ptOf s p) (ptOf s q)):=by
 match p,q with
 | none,none=>exact rfl
 | none,some (i,j)=>exact ⟨rfl,(hq i j rfl).1,(hq i j rfl).2.1⟩
 | some (i,j),none=>exact ⟨padd_far_r _,(hp i j rfl).1,(hp i j rfl).2.1⟩
 | some (i,j),some (k,l)=>exact ⟨rfl,rfl,rfl⟩
def x2P (g:Option (Nat × Nat)→Option (Nat × Nat)→PR):X:=fun F st args=>match args with
 | [.one a,.one b]=>match inP F st a with
  | some (p,st1)=>match inP F st1 b with
   | some (q,st2)=>match outP F st2 (g p q) with
    | some (x,st')=>some (.tup [.one x,.one (.lit (.bool true))],st')
    | none=>none
   | none=>none
  | none=>none
 | _=>none
theorem x2P_ok {f:FuncId} {g:Option (Nat × Nat)→Option (Nat × Nat)→PR} {op:Pt pp→Pt pp→Pt pp}
  (hm:∀ (w:World) (v1 v2:Value) (p q:Pt pp),PtAt w v1 p→PtAt w v2 q→Meets Try.prog f #[v1,v2] w (OutPt w (op p q)))
  (hg:∀ (s:Nums) (p q:Option (Nat × Nat)),Valid s p→Valid s q→(g p q).is s (op (ptOf s p) (ptOf s q))):XOk Try.prog f (x2P g):=by
 refine ⟨fun {F st st' args av} h=>?_,fun {s β F w0 st st' a w args vs av} hr h hargs hH=>?_⟩
 ·unfold x2P at h
  split at h
  ·split at h
   ·rename_i h1
    split at h
    ·rename_i h2
     split at h
     ·rename_i h3
      cases h
      exact ((inP_grows h1).trans (inP_grows h2)).trans (outP_grows h3)
     ·cases h
    ·cases h
   ·cases h
  ·cases h
 ·unfold x2P at h
  split at h
  ·split at h
   ·rename_i p st1 h1
    split at h
    ·rename_i q st2 h2
     split at h
     ·rename_i x st3 h3
      cases h
      obtain ⟨u,v,rfl,hu,hv⟩:=avs2 hargs
      have g3:=outP_grows h3
      have g2:=inP_grows h2
      have H2:=g3.le.holds hH
      have H1:=g2.le.holds H2
      obtain ⟨a1,a2,r1⟩:=inP_ok hr h1 H1 hu
      obtain ⟨e1,e2⟩:=inP_same h1
      obtain ⟨b1,b2,r2⟩:=inP_ok r1 h2 H2 (by rw [e2]; exact hv)
      obtain ⟨e3,e4⟩:=inP_same h2
      have hme:=hm w u v _ _ a1 b1
      intro o' a' next Q hn
      refine hme o' a' next Q fun r w' ⟨v',hr',hnew⟩=>hn _ _ ?_
      obtain ⟨β',q1,q2,q3⟩:=outP_ok r2 h3 (hg s p q a2 b2) hnew hH
      exact ⟨β',by rw [← e2,← e4]; exact q1,⟨[_,_],hr',q2,rfl,trivial⟩,q3⟩
     ·cases h
    ·cases h
   ·cases h
  ·cases h
def x35:X:=x2P sumR
theorem x35_ok:XOk Try.prog 35 x35:=x2P_ok (fun w v1 v2 p q h1 h2=>meets35 w v1 v2 h1 h2) fun s p q hp hq=>sumR_is hp hq
def x1P (g:Option (Nat × Nat)→PR):X:=fun F st args=>match args with
 | [.one a]=>match inP F st a with
  | some (p,st1)=>match outP F st1 (g p) with
   | some (x,st')=>some (.tup [.one x,.one (.lit (.bool true))],st')
   | none=>none
  | none=>none
 | _=>none
theorem x1P_ok {f:FuncId} {g:Option (Nat × Nat)→PR} {op:Pt pp→Pt pp}
  (hm:∀ (w:World) (v1:Value) (p:Pt pp),PtAt w v1 p→Meets Try.prog f #[v1] w (OutPt w (op p)))
  (hg:∀ (s:Nums) (p:Option (Nat × Nat)),Valid s p→(g p).is s (op (ptOf s p))):XOk Try.prog f (x1P g):=by
 refine ⟨fun {F st st' args av} h=>?_,fun {s β F w0 st st' a w args vs av} hr h hargs hH=>?_⟩
 ·unfold x1P at h
  split at h
  ·split at h
   ·rename_i h1
    split at h
    ·rename_i h3
     cases h
     exact (inP_grows h1).trans (outP_grows h3)
    ·cases h
   ·cases h
  ·cases h
 ·unfold x1P at h
  split at h
  ·split at h
   ·rename_i p st1 h1
    split at h
    ·rename_i x st3 h3
     cases h
     obtain ⟨u,rfl,hu⟩:=avs1 hargs
     have g3:=outP_grows h3
     have H1:=g3.le.holds hH
     obtain ⟨a1,a2,r1⟩:=inP_ok hr h1 H1 hu
     obtain ⟨e1,e2⟩:=inP_same h1
     have hme:=hm w u _ a1
     intro o' a' next Q hn
     refine hme o' a' next Q fun r w' ⟨v',hr',hnew⟩=>hn _ _ ?_
     obtain ⟨β',q1,q2,q3⟩:=outP_ok r1 h3 (hg s p a2) hnew hH
     exact ⟨β',by rw [← e2]; exact q1,⟨[_,_],hr',q2,rfl,trivial⟩,q3⟩
    ·cases h
   ·cases h
  ·cases h
end P224
/- The reference's Sum of two points. PRINTED BY A PROGRAM OF MY OWN (gen/mk32b.py). -/
namespace P224
open Go Go.RowKit Go.Proofs
set_option maxRecDepth 100000
set_option linter.unusedVariables false
def st32:St:=startSt [curveAV 0,.agg [.lit (.bool false),.slc 1 0 7 7,.slc 2 0 7 7],.agg [.lit (.bool false),.slc 3 0 7 7,.slc 4 0 7 7]] [(0,foldCells),(1,l32s 0),(2,l32s 1),(3,l32s 2),(4,l32s 3)] 4 5
def ex32c:List Ex:=[
.op 14 [(.v 14),(.v 1)],
.fmul (.v 9) (.v 13),
.op 14 [(.v 0),(.v 12)],
.op 14 [(.v 11),(.v 2)],
.op 14 [(.v 10),(.v 0)],
.fmul (.v 9) (.v 9),
.fmul (.v 6) (.v 8),
.finv (.v 7),
.op 14 [(.v 2),(.v 0)],
.op 14 [(.v 3),(.v 1)],
.feq (.v 4) (.c 0),
.feq (.v 0) (.v 2)]
def dec32c:List (Nat × Bool):=[(5,true)]
def fix32c:Fix:=fixD 105 5 [] [] dec32c
def br32c:BriefR:=⟨.ret,16,ex32c,[],[.agg [.lit (.bool false),.slc 17 0 7 7,.slc 20 0 7 7]],[some (l32s 12),some (l32s 15)]⟩
theorem run32c:briefR (tabX true [] xq2) Try.f32 [17,20] (runF (tabX true [] xq2) fix32c 3000 Try.f32 st32)=some br32c:=by kernel_rfl
theorem law32c {s:Nums} {x1 y1 x2 y2:Nat} (g0:s 0=x1) (g1:s 1=y1) (g2:s 2=x2) (g3:s 3=y2) (lx1:x1<pq) (ly1:y1<pq) (lx2:x2<pq) (ly2:y2<pq) (hne:x1≠x2) (h:Holds s 16 ex32c):s 5=1∧farOf (addN x1 y1 x2 y2)=0∧s 12=xOf (addN x1 y1 x2 y2)∧s 15=yOf (addN x1 y1 x2 y2):=by
 obtain ⟨h15,h14,h13,h12,h11,h10,h9,h8,h7,h6,h5,h4,_⟩:=h
 have e15:s 15=((((s 14:Nat):Int) - ((s 1:Nat):Int)) % (pq:Int)).toNat:=h15
 have e14:s 14=s 9*s 13 % pq:=h14
 have e13:s 13=((((s 0:Nat):Int) - ((s 12:Nat):Int)) % (pq:Int)).toNat:=h13
 have e12:s 12=((((s 11:Nat):Int) - ((s 2:Nat):Int)) % (pq:Int)).toNat:=h12
 have e11:s 11=((((s 10:Nat):Int) - ((s 0:Nat):Int)) % (pq:Int)).toNat:=h11
 have e10:s 10=s 9*s 9 % pq:=h10
 have e9:s 9=s 6*s 8 % pq:=h9
 have e8:s 8=finvq (s 7):=h8
 have e7:s 7=((((s 2:Nat):Int) - ((s 0:Nat):Int)) % (pq:Int)).toNat:=h7
 have e6:s 6=((((s 3:Nat):Int) - ((s 1:Nat):Int)) % (pq:Int)).toNat:=h6
 have e5:s 5=if s 4=0 then 1 else 0:=h5
 have e4:s 4=if s 0=s 2 then 1 else 0:=h4
 rw [g0,g2,if_neg hne] at e4
 rw [if_pos e4] at e5
 rw [g0,g2] at e7
 rw [g1,g3] at e6
 rw [g0] at e11 e13
 rw [g2] at e12
 rw [g1] at e15
 have f7:fi pp (s 7)=fi pp x2 - fi pp x1:=by rw [e7,fi_int]
 have f9:fi pp (s 9)=(fi pp y2 - fi pp y1)*finv (fi pp x2 - fi pp x1):=by rw [e9,pq_is,fi_mod,fi_mul,e6,fi_int,e8,fi_finvq,f7]
 have f12:fi pp (s 12)=fi pp (s 9)*fi pp (s 9) - fi pp x1 - fi pp x2:=by rw [e12,fi_int,e11,fi_int,e10,pq_is,fi_mod,fi_mul]
 have f15:fi pp (s 15)=fi pp (s 9)*(fi pp x1 - fi pp (s 12)) - fi pp y1:=by rw [e15,fi_int,e14,pq_is,fi_mod,fi_mul,e13,fi_int]
 obtain ⟨q1,q2,q3⟩:=chord_aff lx1 lx2 hne f9 f12 f15 (by rw [e12]; exact m14 _ _) (by rw [e15]; exact m14 _ _)
 exact ⟨e5,q1,q2,q3⟩
def ex32f:List Ex:=[
.feq (.v 6) (.c 0),
.feq (.v 1) (.v 3),
.feq (.v 4) (.c 0),
.feq (.v 0) (.v 2)]
def dec32f:List (Nat × Bool):=[(5,false),(7,true)]
def fix32f:Fix:=fixD 105 5 [] [] dec32f
def br32f:BriefR:=⟨.ret,8,ex32f,[],[.agg [.lit (.bool true),.lit (.slice none 0 0),.lit (.slice none 0 0)]],[]⟩
theorem run32f:briefR (tabX true [] xq2) Try.f32 [] (runF (tabX true [] xq2) fix32f 3000 Try.f32 st32)=some br32f:=by kernel_rfl
theorem law32f {s:Nums} {x1 y1 x2 y2:Nat} (g0:s 0=x1) (g1:s 1=y1) (g2:s 2=x2) (g3:s 3=y2) (lx1:x1<pq) (ly1:y1<pq) (lx2:x2<pq) (ly2:y2<pq) (he:x1=x2) (hy:y1≠y2) (h:Holds s 8 ex32f):s 5=0∧s 7=1:=by
 obtain ⟨h7,h6,h5,h4,_⟩:=h
 have e7:s 7=if s 6=0 then 1 else 0:=h7
 have e6:s 6=if s 1=s 3 then 1 else 0:=h6
 have e5:s 5=if s 4=0 then 1 else 0:=h5
 have e4:s 4=if s 0=s 2 then 1 else 0:=h4
 rw [g0,g2,if_pos he] at e4
 rw [if_neg (by rw [e4]; decide)] at e5
 rw [g1,g3,if_neg hy] at e6
 rw [if_pos e6] at e7
 exact ⟨e5,e7⟩
def ex32g:List Ex:=[
.feq (.v 1) (.c 0),
.feq (.v 6) (.c 0),
.feq (.v 1) (.v 3),
.feq (.v 4) (.c 0),
.feq (.v 0) (.v 2)]
def dec32g:List (Nat × Bool):=[(5,false),(7,false),(8,true)]
def fix32g:Fix:=fixD 105 5 [] [] dec32g
def br32g:BriefR:=⟨.ret,9,ex32g,[],[.agg [.lit (.bool true),.lit (.slice none 0 0),.lit (.slice none 0 0)]],[]⟩
theorem run32g:briefR (tabX true [] xq2) Try.f32 [] (runF (tabX true [] xq2) fix32g 3000 Try.f32 st32)=some br32g:=by kernel_rfl
theorem law32g {s:Nums} {x1 y1 x2 y2:Nat} (g0:s 0=x1) (g1:s 1=y1) (g2:s 2=x2) (g3:s 3=y2) (lx1:x1<pq) (ly1:y1<pq) (lx2:x2<pq) (ly2:y2<pq) (he:x1=x2) (hy:y1=y2) (hz:y1=0) (h:Holds s 9 ex32g):s 5=0∧s 7=0∧s 8=1:=by
 obtain ⟨h8,h7,h6,h5,h4,_⟩:=h
 have e8:s 8=if s 1=0 then 1 else 0:=h8
 have e7:s 7=if s 6=0 then 1 else 0:=h7
 have e6:s 6=if s 1=s 3 then 1 else 0:=h6
 have e5:s 5=if s 4=0 then 1 else 0:=h5
 have e4:s 4=if s 0=s 2 then 1 else 0:=h4
 rw [g0,g2,if_pos he] at e4
 rw [if_neg (by rw [e4]; decide)] at e5
 rw [g1,g3,if_pos hy] at e6
 rw [if_neg (by rw [e6]; decide)] at e7
 rw [g1,if_pos hz] at e8
 exact ⟨e5,e7,e8⟩
def ex32t:List Ex:=[
.op 14 [(.v 19),(.v 1)],
.fmul (.v 14) (.v 18),
.op 14 [(.v 0),(.v 17)],
.op 14 [(.v 16),(.v 2)],
.op 14 [(.v 15),(.v 0)],
.fmul (.v 14) (.v 14),
.fmul (.v 11) (.v 13),
.finv (.v 12),
.fadd (.v 1) (.v 1),
.op 14 [(.v 10),(.c 3)],
.fmul (.c 3) (.v 9),
.fmul (.v 0) (.v 0),
.feq (.v 1) (.c 0),
.feq (.v 6) (.c 0),
.feq (.v 1) (.v 3),
.feq (.v 4) (.c 0),
.feq (.v 0) (.v 2)]
def dec32t:List (Nat × Bool):=[(5,false),(7,false),(8,false)]
def fix32t:Fix:=fixD 105 5 [] [] dec32t
def br32t:BriefR:=⟨.ret,21,ex32t,[],[.agg [.lit (.bool false),.slc 25 0 7 7,.slc 28 0 7 7]],[some (l32s 17),some (l32s 20)]⟩
theorem run32t:briefR (tabX true [] xq2) Try.f32 [25,28] (runF (tabX true [] xq2) fix32t 3000 Try.f32 st32)=some br32t:=by kernel_rfl
theorem law32t {s:Nums} {x1 y1 x2 y2:Nat} (g0:s 0=x1) (g1:s 1=y1) (g2:s 2=x2) (g3:s 3=y2) (lx1:x1<pq) (ly1:y1<pq) (lx2:x2<pq) (ly2:y2<pq) (he:x1=x2) (hy:y1=y2) (hz:y1≠0) (h:Holds s 21 ex32t):s 5=0∧s 7=0∧s 8=0∧farOf (addN x1 y1 x1 y1)=0∧s 17=xOf (addN x1 y1 x1 y1)∧s 20=yOf (addN x1 y1 x1 y1):=by
 obtain ⟨h20,h19,h18,h17,h16,h15,h14,h13,h12,h11,h10,h9,h8,h7,h6,h5,h4,_⟩:=h
 have e20:s 20=((((s 19:Nat):Int) - ((s 1:Nat):Int)) % (pq:Int)).toNat:=h20
 have e19:s 19=s 14*s 18 % pq:=h19
 have e18:s 18=((((s 0:Nat):Int) - ((s 17:Nat):Int)) % (pq:Int)).toNat:=h18
 have e17:s 17=((((s 16:Nat):Int) - ((s 2:Nat):Int)) % (pq:Int)).toNat:=h17
 have e16:s 16=((((s 15:Nat):Int) - ((s 0:Nat):Int)) % (pq:Int)).toNat:=h16
 have e15:s 15=s 14*s 14 % pq:=h15
 have e14:s 14=s 11*s 13 % pq:=h14
 have e13:s 13=finvq (s 12):=h13
 have e12:s 12=(s 1+s 1) % pq:=h12
 have e11:s 11=((((s 10:Nat):Int) - ((3:Nat):Int)) % (pq:Int)).toNat:=h11
 have e10:s 10=3*s 9 % pq:=h10
 have e9:s 9=s 0*s 0 % pq:=h9
 have e8:s 8=if s 1=0 then 1 else 0:=h8
 have e7:s 7=if s 6=0 then 1 else 0:=h7
 have e6:s 6=if s 1=s 3 then 1 else 0:=h6
 have e5:s 5=if s 4=0 then 1 else 0:=h5
 have e4:s 4=if s 0=s 2 then 1 else 0:=h4
 rw [g0,g2,if_pos he] at e4
 rw [if_neg (by rw [e4]; decide)] at e5
 rw [g1,g3,if_pos hy] at e6
 rw [if_neg (by rw [e6]; decide)] at e7
 rw [g1,if_neg hz] at e8
 rw [g0] at e9 e16 e18
 rw [g2,← he] at e17
 rw [g1] at e12 e20
 have f9:fi pp (s 9)=fi pp x1*fi pp x1:=by rw [e9,pq_is,fi_mod,fi_mul]
 have f10:fi pp (s 10)=3*(fi pp x1*fi pp x1):=by rw [e10,pq_is,fi_mod,fi_mul,f9]; rfl
 have f11:fi pp (s 11)=3*(fi pp x1*fi pp x1) - 3:=by rw [e11,fi_int,f10]; rfl
 have f12:fi pp (s 12)=fi pp y1+fi pp y1:=by rw [e12,pq_is,fi_mod,fi_add]
 have f14:fi pp (s 14)=(3*(fi pp x1*fi pp x1) - 3)*finv (fi pp y1+fi pp y1):=by rw [e14,pq_is,fi_mod,fi_mul,f11,e13,fi_finvq,f12]
 have f17:fi pp (s 17)=fi pp (s 14)*fi pp (s 14) - fi pp x1 - fi pp x1:=by rw [e17,fi_int,e16,fi_int,e15,pq_is,fi_mod,fi_mul]
 have f20:fi pp (s 20)=fi pp (s 14)*(fi pp x1 - fi pp (s 17)) - fi pp y1:=by rw [e20,fi_int,e19,pq_is,fi_mod,fi_mul,e18,fi_int]
 obtain ⟨q1,q2,q3⟩:=tangent_aff ly1 hz f14 f17 f20 (by rw [e17]; exact m14 _ _) (by rw [e20]; exact m14 _ _)
 exact ⟨e5,e7,e8,q1,q2,q3⟩
theorem meets32 (w:World) (bf of:Nat) (v1 v2:Value) {x1 y1 x2 y2:Nat} (hfo:FoldsAt w bf of) (h1:SPt w v1 (ptN x1 y1)) (h2:SPt w v2 (ptN x2 y2)) (lx1:x1<pq) (ly1:y1<pq) (lx2:x2<pq) (ly2:y2<pq) :
  Meets Try.prog 32 #[curveV bf of,v1,v2] w fun r w'=>NewS w r w' (addN x1 y1 x2 y2):=by
 refine meets_of_calls Try.func32 (by kernel_rfl) (by kernel_rfl) ?_
 obtain ⟨b1,b2,hv1,hx1,hy1⟩:∃ b1 b2,v1=.agg #[.bool false,.slice (some ⟨b1,0,none⟩) 7 7,.slice (some ⟨b2,0,none⟩) 7 7]∧El w b1 0 x1∧El w b2 0 y1:=by
  generalize hp:ptN x1 y1=p at h1
  cases h1 with
  | far=>cases hp
  | on b1 b2 x y hv k1 k2 hx hy hon =>
   obtain ⟨rfl,rfl⟩:=ptN_inj (lt_pp lx1) (lt_pp ly1) (lt_pp hx) (lt_pp hy) hp
   exact ⟨b1,b2,hv,k1,k2⟩
 obtain ⟨b3,b4,hv2,hx2,hy2⟩:∃ b1 b2,v2=.agg #[.bool false,.slice (some ⟨b1,0,none⟩) 7 7,.slice (some ⟨b2,0,none⟩) 7 7]∧El w b1 0 x2∧El w b2 0 y2:=by
  generalize hp:ptN x2 y2=p at h2
  cases h2 with
  | far=>cases hp
  | on b1 b2 x y hv k1 k2 hx hy hon =>
   obtain ⟨rfl,rfl⟩:=ptN_inj (lt_pp lx2) (lt_pp ly2) (lt_pp hx) (lt_pp hy) hp
   exact ⟨b1,b2,hv,k1,k2⟩
 subst hv1
 subst hv2
 let β:Places:=fun r=>if r=0 then (bf,of) else if r=1 then (b1,0) else if r=2 then (b2,0) else if r=3 then (b3,0) else (b4,0)
 have hold:∀ r,r<5→(β r).1<w.heap.size:=fun r _=>by
  show (if r=0 then (bf,of) else if r=1 then (b1,0) else if r=2 then (b2,0) else if r=3 then (b3,0) else (b4,0)).1<_
  repeat' split
  ·exact hfo.lt
  ·exact hx1.lt
  ·exact hy1.lt
  ·exact hx2.lt
  ·exact hy2.lt
 have pt3:∀ (s:Nums) (r q b c:Nat),β r=(b,0)→β q=(c,0)→r<5→q<5→(AV.agg [.lit (.bool false),.slc r 0 7 7,.slc q 0 7 7]).rep s β 5 (.agg #[.bool false,.slice (some ⟨b,0,none⟩) 7 7,.slice (some ⟨c,0,none⟩) 7 7]):=fun s r q b c e1 e2 l1 l2=>by
  refine ⟨[_,_,_],rfl,rfl,fun k a x ha hx=>?_⟩
  match k,ha,hx with
  | 0,ha,hx=>cases ha; cases hx; exact rfl
  | 1,ha,hx=>cases ha; cases hx; exact ⟨by rw [at_,e1],l1⟩
  | 2,ha,hx=>cases ha; cases hx; exact ⟨by rw [at_,e2],l2⟩
  | k+3,ha,hx=>cases ha
 have hargs:∀ s:Nums,ArgsOk s β 5 [curveAV 0,.agg [.lit (.bool false),.slc 1 0 7 7,.slc 2 0 7 7],.agg [.lit (.bool false),.slc 3 0 7 7,.slc 4 0 7 7]] [curveV bf of,.agg #[.bool false,.slice (some ⟨b1,0,none⟩) 7 7,.slice (some ⟨b2,0,none⟩) 7 7],.agg #[.bool false,.slice (some ⟨b3,0,none⟩) 7 7,.slice (some ⟨b4,0,none⟩) 7 7]]:=fun s =>
  ⟨curve_rep rfl (by decide),pt3 s 1 2 b1 b2 rfl rfl (by decide) (by decide),pt3 s 3 4 b3 b4 rfl rfl (by decide) (by decide),trivial⟩
 have hmem:∀ s:Nums,(∀ i,i<4→s i=(fun i=>if i=0 then x1 else if i=1 then y1 else if i=2 then x2 else y2:Nums) i)→MemOk s β 5 w [(0,foldCells),(1,l32s 0),(2,l32s 1),(3,l32s 2),(4,l32s 3)]:=fun s hs =>
  ⟨show 0<5 by decide,fold_row rfl hfo,show 1<5 by decide,el_row rfl hx1 (hs 0 (by decide)) (lt224 lx1),show 2<5 by decide,el_row rfl hy1 (hs 1 (by decide)) (lt224 ly1),show 3<5 by decide,el_row rfl hx2 (hs 2 (by decide)) (lt224 lx2),show 4<5 by decide,el_row rfl hy2 (hs 3 (by decide)) (lt224 ly2),trivial⟩
 by_cases hne:x1=x2
 ·by_cases hy:y1=y2
  ·by_cases hz:y1=0
   ·skip
    refine calls_briefR (F:=fix32g) (tabX_ok noPrims_ok xq2_ok) run32g Try.func32 Try.ntmps32 rfl (by decide +kernel) (by decide +kernel) (by decide +kernel) (show 3≤105 by decide) (show 3<4095 by decide) (fun i=>if i=0 then x1 else if i=1 then y1 else if i=2 then x2 else y2) β
     (vals:=[curveV bf of,_,_]) (fun s hs=>hargs s) (fun s hs=>hmem s hs) (fun r l hl hr=>by cases hr) hold (fun r q _ _ h=>by cases h) ?_ ?_
    ·intro s hs hH i bb hb
     obtain ⟨q0,q1,q2⟩:=law32g (x1:=x1) (y1:=y1) (x2:=x2) (y2:=y2) (hs 0 (by decide)) (hs 1 (by decide)) (hs 2 (by decide)) (hs 3 (by decide)) lx1 ly1 lx2 ly2 hne hy hz hH
     have:=findT_mem (show findT i dec32g=some bb from hb)
     simp only [dec32g,List.mem_cons,List.not_mem_nil,or_false,Prod.mk.injEq] at this
     rcases this with ⟨rfl,rfl⟩|⟨rfl,rfl⟩|⟨rfl,rfl⟩ <;> assumption
    ·intro s hs hH st' β' a' w' v hv hm hag hr hbe
     obtain ⟨q0,q1,q2⟩:=law32g (x1:=x1) (y1:=y1) (x2:=x2) (y2:=y2) (hs 0 (by decide)) (hs 1 (by decide)) (hs 2 (by decide)) (hs 3 (by decide)) lx1 ly1 lx2 ly2 hne hy hz hH
     refine ⟨_,rfl,?_⟩
     have hopp:addN x1 y1 x2 y2=.far:=by rw [← hne]; exact opposite_aff ly1 ly2 (.inr hz)
     exact NewS.of_eq (.far (sp_far hv) hbe) hopp
   ·skip
    refine calls_briefR (F:=fix32t) (tabX_ok noPrims_ok xq2_ok) run32t Try.func32 Try.ntmps32 rfl (by decide +kernel) (by decide +kernel) (by decide +kernel) (show 3≤105 by decide) (show 3<4095 by decide) (fun i=>if i=0 then x1 else if i=1 then y1 else if i=2 then x2 else y2) β
     (vals:=[curveV bf of,_,_]) (fun s hs=>hargs s) (fun s hs=>hmem s hs) (fun r l hl hr=>by cases hr) hold (fun r q _ _ h=>by cases h) ?_ ?_
    ·intro s hs hH i bb hb
     obtain ⟨q0,q1,q2,q3,q4,q5⟩:=law32t (x1:=x1) (y1:=y1) (x2:=x2) (y2:=y2) (hs 0 (by decide)) (hs 1 (by decide)) (hs 2 (by decide)) (hs 3 (by decide)) lx1 ly1 lx2 ly2 hne hy hz hH
     have:=findT_mem (show findT i dec32t=some bb from hb)
     simp only [dec32t,List.mem_cons,List.not_mem_nil,or_false,Prod.mk.injEq] at this
     rcases this with ⟨rfl,rfl⟩|⟨rfl,rfl⟩|⟨rfl,rfl⟩ <;> assumption
    ·intro s hs hH st' β' a' w' v hv hm hag hr hbe
     obtain ⟨q0,q1,q2,q3,q4,q5⟩:=law32t (x1:=x1) (y1:=y1) (x2:=x2) (y2:=y2) (hs 0 (by decide)) (hs 1 (by decide)) (hs 2 (by decide)) (hs 3 (by decide)) lx1 ly1 lx2 ly2 hne hy hz hH
     refine ⟨_,rfl,?_⟩
     injection (show [lookup 25 st'.mem,lookup 28 st'.mem]=[some (l32s 17),some (l32s 20)] from hm) with k1 hm
     injection hm with k2 _
     have e0:addN x1 y1 x2 y2=addN x1 y1 x1 y1:=by rw [← hne,← hy]
     have e1:addN x1 y1 x1 y1=ptN (xOf (addN x1 y1 x1 y1)) (yOf (addN x1 y1 x1 y1)):=on_eq fun e=>by rw [e] at q3; cases q3
     exact NewS.of_eq (newS_on hr k1 k2 (show 5≤25 by decide) (show 5≤28 by decide) (by decide) hbe q4 q5 (xOf_lt _) (yOf_lt _) (sp_on hv)) (e0.trans e1)
  ·skip
   refine calls_briefR (F:=fix32f) (tabX_ok noPrims_ok xq2_ok) run32f Try.func32 Try.ntmps32 rfl (by decide +kernel) (by decide +kernel) (by decide +kernel) (show 3≤105 by decide) (show 3<4095 by decide) (fun i=>if i=0 then x1 else if i=1 then y1 else if i=2 then x2 else y2) β
    (vals:=[curveV bf of,_,_]) (fun s hs=>hargs s) (fun s hs=>hmem s hs) (fun r l hl hr=>by cases hr) hold (fun r q _ _ h=>by cases h) ?_ ?_
   ·intro s hs hH i bb hb
    obtain ⟨q0,q1⟩:=law32f (x1:=x1) (y1:=y1) (x2:=x2) (y2:=y2) (hs 0 (by decide)) (hs 1 (by decide)) (hs 2 (by decide)) (hs 3 (by decide)) lx1 ly1 lx2 ly2 hne hy hH
    have:=findT_mem (show findT i dec32f=some bb from hb)
    simp only [dec32f,List.mem_cons,List.not_mem_nil,or_false,Prod.mk.injEq] at this
    rcases this with ⟨rfl,rfl⟩|⟨rfl,rfl⟩ <;> assumption
   ·intro s hs hH st' β' a' w' v hv hm hag hr hbe
    obtain ⟨q0,q1⟩:=law32f (x1:=x1) (y1:=y1) (x2:=x2) (y2:=y2) (hs 0 (by decide)) (hs 1 (by decide)) (hs 2 (by decide)) (hs 3 (by decide)) lx1 ly1 lx2 ly2 hne hy hH
    refine ⟨_,rfl,?_⟩
    have hopp:addN x1 y1 x2 y2=.far:=by rw [← hne]; exact opposite_aff ly1 ly2 (.inl hy)
    exact NewS.of_eq (.far (sp_far hv) hbe) hopp
 ·skip
  refine calls_briefR (F:=fix32c) (tabX_ok noPrims_ok xq2_ok) run32c Try.func32 Try.ntmps32 rfl (by decide +kernel) (by decide +kernel) (by decide +kernel) (show 3≤105 by decide) (show 3<4095 by decide) (fun i=>if i=0 then x1 else if i=1 then y1 else if i=2 then x2 else y2) β
   (vals:=[curveV bf of,_,_]) (fun s hs=>hargs s) (fun s hs=>hmem s hs) (fun r l hl hr=>by cases hr) hold (fun r q _ _ h=>by cases h) ?_ ?_
  ·intro s hs hH i bb hb
   obtain ⟨q0,q1,q2,q3⟩:=law32c (x1:=x1) (y1:=y1) (x2:=x2) (y2:=y2) (hs 0 (by decide)) (hs 1 (by decide)) (hs 2 (by decide)) (hs 3 (by decide)) lx1 ly1 lx2 ly2 hne hH
   have:=findT_mem (show findT i dec32c=some bb from hb)
   simp only [dec32c,List.mem_cons,List.not_mem_nil,or_false,Prod.mk.injEq] at this
   obtain ⟨rfl,rfl⟩:=this
   assumption
  ·intro s hs hH st' β' a' w' v hv hm hag hr hbe
   obtain ⟨q0,q1,q2,q3⟩:=law32c (x1:=x1) (y1:=y1) (x2:=x2) (y2:=y2) (hs 0 (by decide)) (hs 1 (by decide)) (hs 2 (by decide)) (hs 3 (by decide)) lx1 ly1 lx2 ly2 hne hH
   refine ⟨_,rfl,?_⟩
   injection (show [lookup 17 st'.mem,lookup 20 st'.mem]=[some (l32s 12),some (l32s 15)] from hm) with k1 hm
   injection hm with k2 _
   have e1:addN x1 y1 x2 y2=ptN (xOf (addN x1 y1 x2 y2)) (yOf (addN x1 y1 x2 y2)):=on_eq fun e=>by rw [e] at q1; cases q1
   exact NewS.of_eq (newS_on hr k1 k2 (show 5≤17 by decide) (show 5≤20 by decide) (by decide) hbe q2 q3 (xOf_lt _) (yOf_lt _) (sp_on hv)) e1
end P224
