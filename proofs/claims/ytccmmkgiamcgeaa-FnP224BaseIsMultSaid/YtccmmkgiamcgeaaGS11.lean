/- The reference's inverse. -/
import Derived.Test.YtccmmkgiamcgeaaGS8
set_option linter.all false
namespace P224
open Go Go.RowKit Go.Proofs
set_option maxRecDepth 100000
set_option linter.unusedVariables false
noncomputable def xsP:List (Nat × X):=with1 (with1 [(59,x59)] [] 2000 54 Try.f54) [] 5000 83 Try.f83
noncomputable def xs58:List (Nat × X):=with1 (with1 xsP [] 2000 65 Try.f65) [] 2000 82 Try.f82
theorem xsP_ok:XsOk xsP:=with1_ok noPrims_ok (with1_ok noPrims_ok (xcons_ok x59_ok xnil_ok) Try.func54 (by kernel_rfl)) Try.func83 (by kernel_rfl)
theorem xs58_ok:XsOk xs58:=with1_ok noPrims_ok (with1_ok noPrims_ok xsP_ok Try.func65 (by kernel_rfl)) Try.func82 (by kernel_rfl)
theorem tab58_ok:(tabX true [] xs58).Ok Try.prog:=tabX_ok noPrims_ok xs58_ok
def powL (e:Nat):Nat→Wd→Nat→List Ex→Wd × Nat × List Ex
 | 0,cur,n,acc=>(cur,n,acc)
 | i+1,cur,n,acc=>bif e / 2 ^ i % 2 == 1 then powL e i (.v (n+1)) (n+2) (.fmul (.v n) (.v 0) :: .fmul cur cur :: acc) else powL e i (.v n) (n+1) (.fmul cur cur :: acc)
theorem powL_holds {s:Nums} {e:Nat}:∀ (i:Nat) (cur:Wd) (n:Nat) (acc:List Ex),Holds s (powL e i cur n acc).2.1 (powL e i cur n acc).2.2→Holds s n acc
 | 0,cur,n,acc,h=>h
 | i+1,cur,n,acc,h=>by
  rw [powL] at h
  cases hb:(e / 2 ^ i % 2 == 1) with
  | true =>
   rw [hb,cond_true] at h
   exact (powL_holds i _ _ _ h).2.2
  | false =>
   rw [hb,cond_false] at h
   exact (powL_holds i _ _ _ h).2
theorem powL_law {s:Nums} {e x:Nat} (hx:s 0=x):∀ (i:Nat) (cur:Wd) (n:Nat) (acc:List Ex),Holds s (powL e i cur n acc).2.1 (powL e i cur n acc).2.2→cur.val s % pq=x ^ (e / 2 ^ i) % pq →
  (powL e i cur n acc).1.val s % pq=x ^ e % pq
 | 0,cur,n,acc,h,hc=>by
  rw [Nat.pow_zero,Nat.div_one] at hc
  exact hc
 | i+1,cur,n,acc,h,hc=>by
  have hd:e / 2 ^ i=2*(e / 2 ^ (i+1))+e / 2 ^ i % 2:=by
   rw [Nat.pow_succ,← Nat.div_div_eq_div_mul]
   omega
  have hsq:(cur.val s*cur.val s) % pq=x ^ (2*(e / 2 ^ (i+1))) % pq:=by
   rw [Nat.mul_mod,hc,← Nat.mul_mod,← Nat.pow_add,Nat.two_mul]
  rw [powL] at h ⊢
  cases hb:(e / 2 ^ i % 2 == 1) with
  | true =>
   rw [hb,cond_true] at h
   rw [cond_true]
   have hb':=beq_iff_eq.1 hb
   obtain ⟨h1,h2,_⟩:=powL_holds i _ _ _ h
   have e2:s (n+1)=s n*s 0 % pq:=h1
   have e1:s n=cur.val s*cur.val s % pq:=h2
   refine powL_law hx i _ _ _ h ?_
   show s (n+1) % pq=_
   rw [e2,e1,hx,Nat.mod_mod,hsq,Nat.mod_mul_mod,← Nat.pow_succ,hd,hb']
  | false =>
   rw [hb,cond_false] at h
   rw [cond_false]
   have hb':e / 2 ^ i % 2=0:=by
    have:¬ e / 2 ^ i % 2=1:=fun e'=>by rw [e',beq_self_eq_true] at hb; cases hb
    omega
   obtain ⟨h1,_⟩:=powL_holds i _ _ _ h
   have e1:s n=cur.val s*cur.val s % pq:=h1
   refine powL_law hx i _ _ _ h ?_
   show s n % pq=_
   rw [e1,Nat.mod_mod,hsq,hd,hb']
   rfl
def st58:St:=startSt [curveAV 0,.one (.sl 1 0 7)] [(0,foldCells),(1,l32s 0)] 1 2
def p58:Wd × Nat × List Ex:=powL (pq - 2) 224 (.c 1) 1 []
def b58 (R:Nat):BriefR:=⟨.ret,p58.2.1,p58.2.2,[],[.one (.slc R 0 7 14)],[some (l32s (p58.2.1 - 1))]⟩
theorem run58:briefRSame (briefR (tabX true [] xs58) Try.f58 [454] (runF (tabX true [] xs58) (fixD 19 2 [] [] []) 3000 Try.f58 st58)) (b58 454)=true:=by kernel_rfl
theorem p58_end:p58.1=.v 447∧p58.2.1=448:=by decide +kernel
theorem fit58:(b58 454).fit 1=true:=by kernel_rfl
theorem meets58 (w:World) (bf of b1 o1 c1 x:Nat) (hc1:7≤c1) (hfo:FoldsAt w bf of) (hx:El w b1 o1 x) :
  Meets Try.prog 58 #[curveV bf of,.slice (some ⟨b1,o1,none⟩) 7 c1] w (NewEl w 14 (finvq x)):=by
 refine meets_of_calls Try.func58 (by kernel_rfl) (by kernel_rfl) ?_
 have hb:=briefRSame_eq run58
 have hfit:=fit58
 simp only [BriefR.fit,Bool.and_eq_true,decide_eq_true_eq,beq_iff_eq] at hfit
 obtain ⟨⟨⟨g1,g2⟩,g3⟩,g4⟩:=hfit
 let β:Places:=fun r=>if r=0 then (bf,of) else (b1,o1)
 refine calls_briefR (F:=fixD 19 2 [] [] []) tab58_ok hb Try.func58 Try.ntmps58 g1 g2 g3 g4 (show 2≤19 by decide) (show 2<4095 by decide) (fun _=>x) β
  (vals:=[curveV bf of,.slice (some ⟨b1,o1,none⟩) 7 c1]) (fun s hs=>⟨curve_rep rfl (show 0<2 by decide),⟨c1,hc1,rfl,show 1<2 by decide⟩,trivial⟩)
  (fun s hs=>⟨show 0<2 by decide,fold_row rfl hfo,show 1<2 by decide,l32_row rfl hx (hs 0 (by decide)),trivial⟩) (fun r l hl hr=>by cases hr) ?_ (fun r q _ _ h=>by cases h) (fun _ _ _ i b h=>by cases h) ?_
 ·intro r _
  show (if r=0 then (bf,of) else (b1,o1)).1<_
  split
  ·exact hfo.lt
  ·exact hx.lt
 ·intro s hs hH st' β' a' w' v hv hm hag hr hbe
  have h0:s 0=x:=hs 0 (by decide)
  have e447:s 447=finvq x:=by
   have hl:=powL_law (e:=pq - 2) h0 224 (.c 1) 1 [] hH (by
    have:(pq - 2) / 2 ^ 224=0:=by decide +kernel
    rw [this]
    rfl)
   have e:(powL (pq - 2) 224 (.c 1) 1 []).1=.v 447:=p58_end.1
   rw [e] at hl
   have hlt:s 447<pq:=by
    obtain ⟨p,hp⟩:∃ p:List Ex,p58.2.2=.fmul (.v 446) (.v 0) :: p:=⟨p58.2.2.tail,by decide +kernel⟩
    have hH':Holds s p58.2.1 p58.2.2:=hH
    rw [hp,p58_end.2] at hH'
    have:s 447=s 446*s 0 % pq:=hH'.1
    rw [this]
    exact Nat.mod_lt _ pq_pos
   have hl':s 447 % pq=x ^ (pq - 2) % pq:=hl
   rw [Nat.mod_eq_of_lt hlt] at hl'
   rw [hl',finvq_def]
  have hl:lookup 454 st'.mem=some (l32s 447):=by
   have:[lookup 454 st'.mem]=[some (l32s (p58.2.1 - 1))]:=hm
   rw [p58_end.2] at this
   simpa using this
  obtain ⟨hrn,hc⟩:=hr.mem 454 _ hl
  obtain ⟨f1,f2,f3⟩:=hr.fresh 454 (show 2≤454 by decide) hrn
  have hv':v=.slice (some (at_ β' 454 0)) 7 14:=hv.1
  have hget:∀ k,k<7→(l32s 447)[k]?=some (.l32 447 k):=fun k hk=>by
   rw [l32s,List.getElem?_map,List.getElem?_range hk]
   rfl
  refine ⟨v,rfl,(β' 454).1,f1,f2,?_,⟨fun k hk=>?_,?_⟩,fun k hk=>?_,hbe⟩
  ·rw [hv',at_,f3]
  ·obtain ⟨u,u1,u2⟩:=hc k _ (hget k hk)
   rw [u2.1,at_,f3,e447] at u1
   exact u1
  ·obtain ⟨u,u1,u2⟩:=hc 0 _ (hget 0 (by decide))
   have:=u2.2
   rwa [e447] at this
  ·have:=hr.frz 454 _ hl (.inl (show 2≤454 by decide)) k (by simp [l32s]; exact hk)
   rw [at_,f3,Nat.zero_add] at this
   exact this
def x58:X:=fun F st args=>match args with
 | [cv,.one x]=>match isCurve st cv,x.asSl with
  | some _,some (r1,o1,7)=>match elS st.mem r1 o1 with
   | some l=>some (.one (.slc st.nr 0 7 14),{ st with mem:=(st.nr,l32s st.nx) :: st.mem,nr:=st.nr+1,nx:=st.nx+1,exs:=.finv l :: st.exs })
   | _=>none
  | _,_=>none
 | _=>none
theorem x58_ok:XOk Try.prog 58 x58:=by
 refine ⟨fun {F st st' args av} h=>?_,fun {s β F w0 st st' a w args vs av} hr h hargs hH=>?_⟩
 ·unfold x58 at h
  split at h
  ·split at h
   ·split at h
    ·cases h; exact ⟨⟨[_],rfl,rfl⟩,Nat.le_succ _⟩
    ·cases h
   ·cases h
  ·cases h
 ·unfold x58 at h
  split at h
  ·rename_i cv x
   split at h
   ·rename_i q r1 o1 hcv hx
    split at h
    ·rename_i l hl
     cases h
     obtain ⟨u0,u,rfl,hu0,hu⟩:=avs2 hargs
     obtain ⟨rf,of⟩:=q
     obtain ⟨c0,c1,c2⟩:=isCurve_rep hr hcv hu0
     obtain ⟨⟨ca,hva,hca⟩,_⟩:=asSl_rep hx hu
     have hme:=meets58 w (β rf).1 ((β rf).2+of) (β r1).1 ((β r1).2+o1) ca _ hca c1 (elS_rep hr hl)
     intro o' a' next Q hn
     rw [c0,hva]
     exact hme o' a' next Q fun v' w' hnew=>hn _ _ (after_newEl hr hnew hH.1 rfl)
    ·cases h
   ·cases h
  ·cases h
end P224
/- The reference's numbers out of bytes and bytes of numbers. -/
namespace P224
open Go Go.RowKit Go.Proofs
set_option maxRecDepth 100000
set_option linter.unusedVariables false
def ex63:List Ex:=[
.add 64 (.v 108) (.v 110),
.shl 64 0 (.v 109),
.low 64 (.v 27),
.add 64 (.v 105) (.v 107),
.shl 64 8 (.v 106),
.low 64 (.v 26),
.add 64 (.v 102) (.v 104),
.shl 64 16 (.v 103),
.low 64 (.v 25),
.add 64 (.c 0) (.v 101),
.shl 64 24 (.v 100),
.low 64 (.v 24),
.add 64 (.v 96) (.v 98),
.shl 64 0 (.v 97),
.low 64 (.v 23),
.add 64 (.v 93) (.v 95),
.shl 64 8 (.v 94),
.low 64 (.v 22),
.add 64 (.v 90) (.v 92),
.shl 64 16 (.v 91),
.low 64 (.v 21),
.add 64 (.c 0) (.v 89),
.shl 64 24 (.v 88),
.low 64 (.v 20),
.add 64 (.v 84) (.v 86),
.shl 64 0 (.v 85),
.low 64 (.v 19),
.add 64 (.v 81) (.v 83),
.shl 64 8 (.v 82),
.low 64 (.v 18),
.add 64 (.v 78) (.v 80),
.shl 64 16 (.v 79),
.low 64 (.v 17),
.add 64 (.c 0) (.v 77),
.shl 64 24 (.v 76),
.low 64 (.v 16),
.add 64 (.v 72) (.v 74),
.shl 64 0 (.v 73),
.low 64 (.v 15),
.add 64 (.v 69) (.v 71),
.shl 64 8 (.v 70),
.low 64 (.v 14),
.add 64 (.v 66) (.v 68),
.shl 64 16 (.v 67),
.low 64 (.v 13),
.add 64 (.c 0) (.v 65),
.shl 64 24 (.v 64),
.low 64 (.v 12),
.add 64 (.v 60) (.v 62),
.shl 64 0 (.v 61),
.low 64 (.v 11),
.add 64 (.v 57) (.v 59),
.shl 64 8 (.v 58),
.low 64 (.v 10),
.add 64 (.v 54) (.v 56),
.shl 64 16 (.v 55),
.low 64 (.v 9),
.add 64 (.c 0) (.v 53),
.shl 64 24 (.v 52),
.low 64 (.v 8),
.add 64 (.v 48) (.v 50),
.shl 64 0 (.v 49),
.low 64 (.v 7),
.add 64 (.v 45) (.v 47),
.shl 64 8 (.v 46),
.low 64 (.v 6),
.add 64 (.v 42) (.v 44),
.shl 64 16 (.v 43),
.low 64 (.v 5),
.add 64 (.c 0) (.v 41),
.shl 64 24 (.v 40),
.low 64 (.v 4),
.add 64 (.v 36) (.v 38),
.shl 64 0 (.v 37),
.low 64 (.v 3),
.add 64 (.v 33) (.v 35),
.shl 64 8 (.v 34),
.low 64 (.v 2),
.add 64 (.v 30) (.v 32),
.shl 64 16 (.v 31),
.low 64 (.v 1),
.add 64 (.c 0) (.v 29),
.shl 64 24 (.v 28),
.low 64 (.v 0)]
def row63:List A0:=[.sg 111,.sg 99,.sg 87,.sg 75,.sg 63,.sg 51,.sg 39]
def st63:St:=startSt [curveAV 0,.one (.sl 1 0 28)] [(0,foldCells),(1,numsFrom .u8 0 28)] 28 2
def b63:BriefR:=⟨.ret,112,ex63,[],[.one (.slc 3 0 7 7)],[some row63]⟩
theorem run63:briefR (tabX true [] []) Try.f63 [3] (runF (tabX true [] []) (fixD 39 2 [] [] []) 3000 Try.f63 st63)=some b63:=by kernel_rfl
theorem word4 {b0 b1 b2 b3 l0 h0 a0 l1 h1 a1 l2 h2 a2 l3 h3 a3:Nat} (c0:b0<256) (c1:b1<256) (c2:b2<256) (c3:b3<256) (e1:l0=b0 % 2 ^ 64) (e2:h0=l0*2 ^ 24 % 2 ^ 64) (e3:a0=(0+h0) % 2 ^ 64)
  (e4:l1=b1 % 2 ^ 64) (e5:h1=l1*2 ^ 16 % 2 ^ 64) (e6:a1=(a0+h1) % 2 ^ 64) (e7:l2=b2 % 2 ^ 64) (e8:h2=l2*2 ^ 8 % 2 ^ 64) (e9:a2=(a1+h2) % 2 ^ 64) (e10:l3=b3 % 2 ^ 64) (e11:h3=l3*2 ^ 0 % 2 ^ 64) (e12:a3=(a2+h3) % 2 ^ 64) :
  a3=b3+256*b2+65536*b1+16777216*b0∧a3<4294967296:=by omega
theorem law63 {s:Nums} {g:Nat→Nat} (hg:∀ k,k<28→g k<256) (hs:∀ k,k<28→s k=g k) (h:Holds s 112 ex63) :
  (s 111<4294967296∧s 99<4294967296∧s 87<4294967296∧s 75<4294967296∧s 63<4294967296∧s 51<4294967296∧s 39<4294967296)∧sum32 [s 111,s 99,s 87,s 75,s 63,s 51,s 39]=ofBytes (rowF g):=by
 obtain ⟨e111,e110,e109,e108,e107,e106,e105,e104,e103,e102,e101,e100,e99,e98,e97,e96,e95,e94,e93,e92,e91,e90,e89,e88,e87,e86,e85,e84,e83,e82,e81,e80,e79,e78,e77,e76,e75,e74,e73,e72,e71,e70,e69,e68,e67,e66,e65,e64,e63,e62,e61,e60,e59,e58,e57,e56,e55,e54,e53,e52,e51,e50,e49,e48,e47,e46,e45,e44,e43,e42,e41,e40,e39,e38,e37,e36,e35,e34,e33,e32,e31,e30,e29,e28,_⟩:=h
 have c0:=hg 0 (by decide)
 rw [← hs 0 (by decide)] at c0
 have c1:=hg 1 (by decide)
 rw [← hs 1 (by decide)] at c1
 have c2:=hg 2 (by decide)
 rw [← hs 2 (by decide)] at c2
 have c3:=hg 3 (by decide)
 rw [← hs 3 (by decide)] at c3
 have c4:=hg 4 (by decide)
 rw [← hs 4 (by decide)] at c4
 have c5:=hg 5 (by decide)
 rw [← hs 5 (by decide)] at c5
 have c6:=hg 6 (by decide)
 rw [← hs 6 (by decide)] at c6
 have c7:=hg 7 (by decide)
 rw [← hs 7 (by decide)] at c7
 have c8:=hg 8 (by decide)
 rw [← hs 8 (by decide)] at c8
 have c9:=hg 9 (by decide)
 rw [← hs 9 (by decide)] at c9
 have c10:=hg 10 (by decide)
 rw [← hs 10 (by decide)] at c10
 have c11:=hg 11 (by decide)
 rw [← hs 11 (by decide)] at c11
 have c12:=hg 12 (by decide)
 rw [← hs 12 (by decide)] at c12
 have c13:=hg 13 (by decide)
 rw [← hs 13 (by decide)] at c13
 have c14:=hg 14 (by decide)
 rw [← hs 14 (by decide)] at c14
 have c15:=hg 15 (by decide)
 rw [← hs 15 (by decide)] at c15
 have c16:=hg 16 (by decide)
 rw [← hs 16 (by decide)] at c16
 have c17:=hg 17 (by decide)
 rw [← hs 17 (by decide)] at c17
 have c18:=hg 18 (by decide)
 rw [← hs 18 (by decide)] at c18
 have c19:=hg 19 (by decide)
 rw [← hs 19 (by decide)] at c19
 have c20:=hg 20 (by decide)
 rw [← hs 20 (by decide)] at c20
 have c21:=hg 21 (by decide)
 rw [← hs 21 (by decide)] at c21
 have c22:=hg 22 (by decide)
 rw [← hs 22 (by decide)] at c22
 have c23:=hg 23 (by decide)
 rw [← hs 23 (by decide)] at c23
 have c24:=hg 24 (by decide)
 rw [← hs 24 (by decide)] at c24
 have c25:=hg 25 (by decide)
 rw [← hs 25 (by decide)] at c25
 have c26:=hg 26 (by decide)
 rw [← hs 26 (by decide)] at c26
 have c27:=hg 27 (by decide)
 rw [← hs 27 (by decide)] at c27
 obtain ⟨a0,l0⟩:=word4 c0 c1 c2 c3 e28 e29 e30 e31 e32 e33 e34 e35 e36 e37 e38 e39
 have a0:s 39=s 3+256*s 2+65536*s 1+16777216*s 0:=a0
 have l0:s 39<4294967296:=l0
 obtain ⟨a1,l1⟩:=word4 c4 c5 c6 c7 e40 e41 e42 e43 e44 e45 e46 e47 e48 e49 e50 e51
 have a1:s 51=s 7+256*s 6+65536*s 5+16777216*s 4:=a1
 have l1:s 51<4294967296:=l1
 obtain ⟨a2,l2⟩:=word4 c8 c9 c10 c11 e52 e53 e54 e55 e56 e57 e58 e59 e60 e61 e62 e63
 have a2:s 63=s 11+256*s 10+65536*s 9+16777216*s 8:=a2
 have l2:s 63<4294967296:=l2
 obtain ⟨a3,l3⟩:=word4 c12 c13 c14 c15 e64 e65 e66 e67 e68 e69 e70 e71 e72 e73 e74 e75
 have a3:s 75=s 15+256*s 14+65536*s 13+16777216*s 12:=a3
 have l3:s 75<4294967296:=l3
 obtain ⟨a4,l4⟩:=word4 c16 c17 c18 c19 e76 e77 e78 e79 e80 e81 e82 e83 e84 e85 e86 e87
 have a4:s 87=s 19+256*s 18+65536*s 17+16777216*s 16:=a4
 have l4:s 87<4294967296:=l4
 obtain ⟨a5,l5⟩:=word4 c20 c21 c22 c23 e88 e89 e90 e91 e92 e93 e94 e95 e96 e97 e98 e99
 have a5:s 99=s 23+256*s 22+65536*s 21+16777216*s 20:=a5
 have l5:s 99<4294967296:=l5
 obtain ⟨a6,l6⟩:=word4 c24 c25 c26 c27 e100 e101 e102 e103 e104 e105 e106 e107 e108 e109 e110 e111
 have a6:s 111=s 27+256*s 26+65536*s 25+16777216*s 24:=a6
 have l6:s 111<4294967296:=l6
 clear e111 e110 e109 e108 e107 e106 e105 e104 e103 e102 e101 e100 e99 e98 e97 e96 e95 e94 e93 e92 e91 e90 e89 e88 e87 e86 e85 e84 e83 e82 e81 e80 e79 e78 e77 e76 e75 e74 e73 e72 e71 e70 e69 e68 e67 e66 e65 e64 e63 e62 e61 e60 e59 e58 e57 e56 e55 e54 e53 e52 e51 e50 e49 e48 e47 e46 e45 e44 e43 e42 e41 e40 e39 e38 e37 e36 e35 e34 e33 e32 e31 e30 e29 e28
 refine ⟨⟨l6,l5,l4,l3,l2,l1,l0⟩,?_⟩
 have e:ofBytes (rowF g)=g 0*256 ^ 27+(g 1*256 ^ 26+(g 2*256 ^ 25+(g 3*256 ^ 24+(g 4*256 ^ 23+(g 5*256 ^ 22+(g 6*256 ^ 21+(g 7*256 ^ 20+(g 8*256 ^ 19+(g 9*256 ^ 18+(g 10*256 ^ 17+(g 11*256 ^ 16+(g 12*256 ^ 15+(g 13*256 ^ 14+(g 14*256 ^ 13+(g 15*256 ^ 12+(g 16*256 ^ 11+(g 17*256 ^ 10+(g 18*256 ^ 9+(g 19*256 ^ 8+(g 20*256 ^ 7+(g 21*256 ^ 6+(g 22*256 ^ 5+(g 23*256 ^ 4+(g 24*256 ^ 3+(g 25*256 ^ 2+(g 26*256 ^ 1+(g 27*256 ^ 0+0))))))))))))))))))))))))))):=rfl
 rw [e]
 rw [← hs 0 (by decide)]
 rw [← hs 1 (by decide)]
 rw [← hs 2 (by decide)]
 rw [← hs 3 (by decide)]
 rw [← hs 4 (by decide)]
 rw [← hs 5 (by decide)]
 rw [← hs 6 (by decide)]
 rw [← hs 7 (by decide)]
 rw [← hs 8 (by decide)]
 rw [← hs 9 (by decide)]
 rw [← hs 10 (by decide)]
 rw [← hs 11 (by decide)]
 rw [← hs 12 (by decide)]
 rw [← hs 13 (by decide)]
 rw [← hs 14 (by decide)]
 rw [← hs 15 (by decide)]
 rw [← hs 16 (by decide)]
 rw [← hs 17 (by decide)]
 rw [← hs 18 (by decide)]
 rw [← hs 19 (by decide)]
 rw [← hs 20 (by decide)]
 rw [← hs 21 (by decide)]
 rw [← hs 22 (by decide)]
 rw [← hs 23 (by decide)]
 rw [← hs 24 (by decide)]
 rw [← hs 25 (by decide)]
 rw [← hs 26 (by decide)]
 rw [← hs 27 (by decide)]
 show s 111+4294967296*(s 99+4294967296*(s 87+4294967296*(s 75+4294967296*(s 63+4294967296*(s 51+4294967296*(s 39+4294967296*0))))))=_
 rw [a6,a5,a4,a3,a2,a1,a0]
 clear a0 l0 a1 l1 a2 l2 a3 l3 a4 l4 a5 l5 a6 l6 hs hg e
 omega
theorem meets63 (w:World) (bf of b1 o1 c1:Nat) (g:Nat→Nat) (hc1:28≤c1) (hfo:FoldsAt w bf of) (hg:BytesAt w b1 o1 g) :
  Meets Try.prog 63 #[curveV bf of,.slice (some ⟨b1,o1,none⟩) 28 c1] w (NewEl w 7 (ofBytes (rowF g))):=by
 refine meets_of_calls Try.func63 (by kernel_rfl) (by kernel_rfl) ?_
 let β:Places:=fun r=>if r=0 then (bf,of) else (b1,o1)
 refine calls_briefR (F:=fixD 39 2 [] [] []) tabS_ok run63 Try.func63 Try.ntmps63 rfl (by decide +kernel) (by decide +kernel) (by decide +kernel) (show 2≤39 by decide) (show 2<4095 by decide) g β
  (vals:=[curveV bf of,.slice (some ⟨b1,o1,none⟩) 28 c1]) (fun s hs=>⟨curve_rep rfl (show 0<2 by decide),⟨c1,hc1,rfl,show 1<2 by decide⟩,trivial⟩) ?_ (fun r l hl hr=>by cases hr) ?_ (fun r q _ _ h=>by cases h) (fun _ _ _ i b h=>by cases h) ?_
 ·intro s hs
  refine ⟨show 0<2 by decide,fold_row rfl hfo,show 1<2 by decide,row_nums 28 0 0 fun k hk=>?_,trivial⟩
  obtain ⟨e1,e2⟩:=hg k hk
  rw [Nat.zero_add,hs _ hk]
  exact ⟨e1,e2⟩
 ·intro r _
  show (if r=0 then (bf,of) else (b1,o1)).1<_
  split
  ·exact hfo.lt
  ·exact World.block_lt_of_cell? w _ (hg 0 (by decide)).1
 ·intro s hs hH st' β' a' w' v hv hm hag hr hbe
  obtain ⟨⟨l0,l1,l2,l3,l4,l5,l6⟩,hsum⟩:=law63 (fun k hk=>(hg k hk).2) hs hH
  have hl:lookup 3 st'.mem=some row63:=by
   have:[lookup 3 st'.mem]=[some row63]:=hm
   simpa using this
  obtain ⟨hrn,hc⟩:=hr.mem 3 _ hl
  obtain ⟨f1,f2,f3⟩:=hr.fresh 3 (show 2≤3 by decide) hrn
  have hv':v=.slice (some (at_ β' 3 0)) 7 7:=hv.1
  have hall:∀ z ∈ [s 111,s 99,s 87,s 75,s 63,s 51,s 39],z<4294967296:=by
   intro z hz
   simp only [List.mem_cons,List.not_mem_nil,or_false] at hz
   rcases hz with rfl | rfl | rfl | rfl | rfl | rfl | rfl <;> assumption
  have hD:∀ k,k<7→D (ofBytes (rowF g)) k=[s 111,s 99,s 87,s 75,s 63,s 51,s 39].getD k 0:=fun k _=>by rw [← hsum]; exact dig_sum _ k hall
  have hlt:ofBytes (rowF g)<2 ^ 224:=by
   have:=ofBytes_lt (rowF g) (rowF_lt fun k hk=>(hg k hk).2)
   rwa [rowF_len] at this
  have cell:∀ k i,k<7→row63[k]?=some (.sg i)→s i<4294967296→[s 111,s 99,s 87,s 75,s 63,s 51,s 39].getD k 0=s i→w'.cell? ⟨(β' 3).1,0+k,none⟩=some (.int .i64 (D (ofBytes (rowF g)) k:Int)):=by
   intro k i hk hi hlt' he
   obtain ⟨u,u1,u2⟩:=hc k _ hi
   rw [u2.1,at_,f3,sgn_nat (by omega)] at u1
   rw [hD k hk,he]
   exact u1
  refine ⟨v,rfl,(β' 3).1,f1,f2,?_,⟨fun k hk=>?_,hlt⟩,fun k hk=>?_,hbe⟩
  ·rw [hv',at_,f3]
  ·have:k=0∨k=1∨k=2∨k=3∨k=4∨k=5∨k=6:=by omega
   rcases this with rfl | rfl | rfl | rfl | rfl | rfl | rfl
   ·exact cell 0 111 hk rfl l0 rfl
   ·exact cell 1 99 hk rfl l1 rfl
   ·exact cell 2 87 hk rfl l2 rfl
   ·exact cell 3 75 hk rfl l3 rfl
   ·exact cell 4 63 hk rfl l4 rfl
   ·exact cell 5 51 hk rfl l5 rfl
   ·exact cell 6 39 hk rfl l6 rfl
  ·have:=hr.frz 3 _ hl (.inl (show 2≤3 by decide)) k hk
   rw [at_,f3,Nat.zero_add] at this
   exact this
def x63:X:=fun F st args=>match args with
 | [cv,.one x]=>match isCurve st cv,x.asSl with
  | some _,some (r1,o1,28)=>match wordsAt .u8 st.mem r1 o1 28 with
   | some l=>some (.one (.slc st.nr 0 7 7),{ st with mem:=(st.nr,l32s st.nx) :: st.mem,nr:=st.nr+1,nx:=st.nx+1,exs:=.op 2 l :: st.exs })
   | _=>none
  | _,_=>none
 | _=>none
theorem x63_ok:XOk Try.prog 63 x63:=by
 refine ⟨fun {F st st' args av} h=>?_,fun {s β F w0 st st' a w args vs av} hr h hargs hH=>?_⟩
 ·unfold x63 at h
  split at h
  ·split at h
   ·split at h
    ·cases h; exact ⟨⟨[_],rfl,rfl⟩,Nat.le_succ _⟩
    ·cases h
   ·cases h
  ·cases h
 ·unfold x63 at h
  split at h
  ·rename_i cv x
   split at h
   ·rename_i q r1 o1 hcv hx
    split at h
    ·rename_i l hl
     cases h
     obtain ⟨u0,u,rfl,hu0,hu⟩:=avs2 hargs
     obtain ⟨rf,of⟩:=q
     obtain ⟨c0,c1,c2⟩:=isCurve_rep hr hcv hu0
     obtain ⟨⟨ca,hva,hca⟩,_⟩:=asSl_rep hx hu
     obtain ⟨hb1,hf1⟩:=words_bytes hr hl
     have hme:=meets63 w (β rf).1 ((β rf).2+of) (β r1).1 ((β r1).2+o1) ca _ hca c1 hb1
     rw [hf1] at hme
     intro o' a' next Q hn
     rw [c0,hva]
     exact hme o' a' next Q fun v' w' hnew=>hn _ _ (after_newEl hr hnew hH.1 rfl)
    ·cases h
   ·cases h
  ·cases h
def ex41:List Ex:=[
.low 8 (.v 55),
.op 5 [.c 0,.w 0 0],
.low 8 (.v 53),
.op 5 [.c 8,.w 0 0],
.low 8 (.v 51),
.op 5 [.c 16,.w 0 0],
.low 8 (.v 49),
.op 5 [.c 24,.w 0 0],
.low 8 (.v 47),
.op 5 [.c 0,.w 0 1],
.low 8 (.v 45),
.op 5 [.c 8,.w 0 1],
.low 8 (.v 43),
.op 5 [.c 16,.w 0 1],
.low 8 (.v 41),
.op 5 [.c 24,.w 0 1],
.low 8 (.v 39),
.op 5 [.c 0,.w 0 2],
.low 8 (.v 37),
.op 5 [.c 8,.w 0 2],
.low 8 (.v 35),
.op 5 [.c 16,.w 0 2],
.low 8 (.v 33),
.op 5 [.c 24,.w 0 2],
.low 8 (.v 31),
.op 5 [.c 0,.w 0 3],
.low 8 (.v 29),
.op 5 [.c 8,.w 0 3],
.low 8 (.v 27),
.op 5 [.c 16,.w 0 3],
.low 8 (.v 25),
.op 5 [.c 24,.w 0 3],
.low 8 (.v 23),
.op 5 [.c 0,.w 0 4],
.low 8 (.v 21),
.op 5 [.c 8,.w 0 4],
.low 8 (.v 19),
.op 5 [.c 16,.w 0 4],
.low 8 (.v 17),
.op 5 [.c 24,.w 0 4],
.low 8 (.v 15),
.op 5 [.c 0,.w 0 5],
.low 8 (.v 13),
.op 5 [.c 8,.w 0 5],
.low 8 (.v 11),
.op 5 [.c 16,.w 0 5],
.low 8 (.v 9),
.op 5 [.c 24,.w 0 5],
.low 8 (.v 7),
.op 5 [.c 0,.w 0 6],
.low 8 (.v 5),
.op 5 [.c 8,.w 0 6],
.low 8 (.v 3),
.op 5 [.c 16,.w 0 6],
.low 8 (.v 1),
.op 5 [.c 24,.w 0 6]]
def row41:List A0:=[.num .u8 2,.num .u8 4,.num .u8 6,.num .u8 8,.num .u8 10,.num .u8 12,.num .u8 14,.num .u8 16,.num .u8 18,.num .u8 20,.num .u8 22,.num .u8 24,.num .u8 26,.num .u8 28,.num .u8 30,.num .u8 32,.num .u8 34,.num .u8 36,.num .u8 38,.num .u8 40,.num .u8 42,.num .u8 44,.num .u8 46,.num .u8 48,.num .u8 50,.num .u8 52,.num .u8 54,.num .u8 56]
def st41:St:=startSt [curveAV 0,.one (.sl 1 0 7)] [(0,foldCells),(1,l32s 0)] 1 2
def b41:BriefR:=⟨.ret,57,ex41,[],[.one (.slc 3 0 28 28)],[some row41]⟩
theorem run41:briefR (tabX true [] []) Try.f41 [3] (runF (tabX true [] []) (fixD 36 2 [] [] []) 3000 Try.f41 st41)=some b41:=by kernel_rfl
theorem by8_D (x j m:Nat) (hm:m<4):D x j / 2 ^ (8*m) % 2 ^ 8=by8 (4*j+m) x:=by
 unfold D by8
 have e:256 ^ (4*j+m)=2 ^ (32*j)*2 ^ (8*m):=by
  rw [show (256:Nat)=2 ^ 8 from rfl,← Nat.pow_mul,← Nat.pow_add]
  congr 1
  omega
 rw [e,← Nat.div_div_eq_div_mul]
 generalize x / 2 ^ (32*j)=q
 have:m=0∨m=1∨m=2∨m=3:=by omega
 rcases this with rfl | rfl | rfl | rfl <;> simp only [Nat.reduceMul,Nat.reducePow] <;> omega
theorem byte41 {s:Nums} {x k j m n:Nat} (h0:s 0=x) (hm:m<4) (e1:s n=sarN (8*m) (D (s 0) j)) (e2:s (n+1)=s n % 2 ^ 8) (hk:4*j+m=27 - k):s (n+1)=by8 (27 - k) x:=by
 rw [e2,e1,h0,← hk,← by8_D x j m hm]
 unfold sarN
 have:=D_lt x j
 rw [if_pos (by omega)]
theorem law41 {s:Nums} {x:Nat} (h0:s 0=x) (h:Holds s 57 ex41):∀ k,k<28→s (2+2*k)=by8 (27 - k) x:=by
 obtain ⟨e56,e55,e54,e53,e52,e51,e50,e49,e48,e47,e46,e45,e44,e43,e42,e41,e40,e39,e38,e37,e36,e35,e34,e33,e32,e31,e30,e29,e28,e27,e26,e25,e24,e23,e22,e21,e20,e19,e18,e17,e16,e15,e14,e13,e12,e11,e10,e9,e8,e7,e6,e5,e4,e3,e2,e1,_⟩:=h
 have b0:s 2=by8 (27 - 0) x:=byte41 (k:=0) (j:=6) (m:=3) (n:=1) h0 (by decide) e1 e2 rfl
 have b1:s 4=by8 (27 - 1) x:=byte41 (k:=1) (j:=6) (m:=2) (n:=3) h0 (by decide) e3 e4 rfl
 have b2:s 6=by8 (27 - 2) x:=byte41 (k:=2) (j:=6) (m:=1) (n:=5) h0 (by decide) e5 e6 rfl
 have b3:s 8=by8 (27 - 3) x:=byte41 (k:=3) (j:=6) (m:=0) (n:=7) h0 (by decide) e7 e8 rfl
 have b4:s 10=by8 (27 - 4) x:=byte41 (k:=4) (j:=5) (m:=3) (n:=9) h0 (by decide) e9 e10 rfl
 have b5:s 12=by8 (27 - 5) x:=byte41 (k:=5) (j:=5) (m:=2) (n:=11) h0 (by decide) e11 e12 rfl
 have b6:s 14=by8 (27 - 6) x:=byte41 (k:=6) (j:=5) (m:=1) (n:=13) h0 (by decide) e13 e14 rfl
 have b7:s 16=by8 (27 - 7) x:=byte41 (k:=7) (j:=5) (m:=0) (n:=15) h0 (by decide) e15 e16 rfl
 have b8:s 18=by8 (27 - 8) x:=byte41 (k:=8) (j:=4) (m:=3) (n:=17) h0 (by decide) e17 e18 rfl
 have b9:s 20=by8 (27 - 9) x:=byte41 (k:=9) (j:=4) (m:=2) (n:=19) h0 (by decide) e19 e20 rfl
 have b10:s 22=by8 (27 - 10) x:=byte41 (k:=10) (j:=4) (m:=1) (n:=21) h0 (by decide) e21 e22 rfl
 have b11:s 24=by8 (27 - 11) x:=byte41 (k:=11) (j:=4) (m:=0) (n:=23) h0 (by decide) e23 e24 rfl
 have b12:s 26=by8 (27 - 12) x:=byte41 (k:=12) (j:=3) (m:=3) (n:=25) h0 (by decide) e25 e26 rfl
 have b13:s 28=by8 (27 - 13) x:=byte41 (k:=13) (j:=3) (m:=2) (n:=27) h0 (by decide) e27 e28 rfl
 have b14:s 30=by8 (27 - 14) x:=byte41 (k:=14) (j:=3) (m:=1) (n:=29) h0 (by decide) e29 e30 rfl
 have b15:s 32=by8 (27 - 15) x:=byte41 (k:=15) (j:=3) (m:=0) (n:=31) h0 (by decide) e31 e32 rfl
 have b16:s 34=by8 (27 - 16) x:=byte41 (k:=16) (j:=2) (m:=3) (n:=33) h0 (by decide) e33 e34 rfl
 have b17:s 36=by8 (27 - 17) x:=byte41 (k:=17) (j:=2) (m:=2) (n:=35) h0 (by decide) e35 e36 rfl
 have b18:s 38=by8 (27 - 18) x:=byte41 (k:=18) (j:=2) (m:=1) (n:=37) h0 (by decide) e37 e38 rfl
 have b19:s 40=by8 (27 - 19) x:=byte41 (k:=19) (j:=2) (m:=0) (n:=39) h0 (by decide) e39 e40 rfl
 have b20:s 42=by8 (27 - 20) x:=byte41 (k:=20) (j:=1) (m:=3) (n:=41) h0 (by decide) e41 e42 rfl
 have b21:s 44=by8 (27 - 21) x:=byte41 (k:=21) (j:=1) (m:=2) (n:=43) h0 (by decide) e43 e44 rfl
 have b22:s 46=by8 (27 - 22) x:=byte41 (k:=22) (j:=1) (m:=1) (n:=45) h0 (by decide) e45 e46 rfl
 have b23:s 48=by8 (27 - 23) x:=byte41 (k:=23) (j:=1) (m:=0) (n:=47) h0 (by decide) e47 e48 rfl
 have b24:s 50=by8 (27 - 24) x:=byte41 (k:=24) (j:=0) (m:=3) (n:=49) h0 (by decide) e49 e50 rfl
 have b25:s 52=by8 (27 - 25) x:=byte41 (k:=25) (j:=0) (m:=2) (n:=51) h0 (by decide) e51 e52 rfl
 have b26:s 54=by8 (27 - 26) x:=byte41 (k:=26) (j:=0) (m:=1) (n:=53) h0 (by decide) e53 e54 rfl
 have b27:s 56=by8 (27 - 27) x:=byte41 (k:=27) (j:=0) (m:=0) (n:=55) h0 (by decide) e55 e56 rfl
 clear e56 e55 e54 e53 e52 e51 e50 e49 e48 e47 e46 e45 e44 e43 e42 e41 e40 e39 e38 e37 e36 e35 e34 e33 e32 e31 e30 e29 e28 e27 e26 e25 e24 e23 e22 e21 e20 e19 e18 e17 e16 e15 e14 e13 e12 e11 e10 e9 e8 e7 e6 e5 e4 e3 e2 e1
 intro k hk
 have:k=0∨k=1∨k=2∨k=3∨k=4∨k=5∨k=6∨k=7∨k=8∨k=9∨k=10∨k=11∨k=12∨k=13∨k=14∨k=15∨k=16∨k=17∨k=18∨k=19∨k=20∨k=21∨k=22∨k=23∨k=24∨k=25∨k=26∨k=27:=by omega
 rcases this with rfl | rfl | rfl | rfl | rfl | rfl | rfl | rfl | rfl | rfl | rfl | rfl | rfl | rfl | rfl | rfl | rfl | rfl | rfl | rfl | rfl | rfl | rfl | rfl | rfl | rfl | rfl | rfl
 ·exact b0
 ·exact b1
 ·exact b2
 ·exact b3
 ·exact b4
 ·exact b5
 ·exact b6
 ·exact b7
 ·exact b8
 ·exact b9
 ·exact b10
 ·exact b11
 ·exact b12
 ·exact b13
 ·exact b14
 ·exact b15
 ·exact b16
 ·exact b17
 ·exact b18
 ·exact b19
 ·exact b20
 ·exact b21
 ·exact b22
 ·exact b23
 ·exact b24
 ·exact b25
 ·exact b26
 ·exact b27
theorem meets41 (w:World) (bf of b1 o1 c1 x:Nat) (hc1:7≤c1) (hfo:FoldsAt w bf of) (hx:El w b1 o1 x) :
  Meets Try.prog 41 #[curveV bf of,.slice (some ⟨b1,o1,none⟩) 7 c1] w fun v w'=>∃ b,w.heap.size≤b∧b<w'.heap.size∧v=slice28 b 0∧(∀ k,k<28→w'.cell? ⟨b,k,none⟩=some (.int .u8 (by8 (27 - k) x:Int)))∧(∀ k,k<28→w'.frozen? ⟨b,k,none⟩=false)∧Below w.heap.size w w':=by
 refine meets_of_calls Try.func41 (by kernel_rfl) (by kernel_rfl) ?_
 let β:Places:=fun r=>if r=0 then (bf,of) else (b1,o1)
 refine calls_briefR (F:=fixD 36 2 [] [] []) tabS_ok run41 Try.func41 Try.ntmps41 rfl (by decide +kernel) (by decide +kernel) (by decide +kernel) (show 2≤36 by decide) (show 2<4095 by decide) (fun _=>x) β
  (vals:=[curveV bf of,.slice (some ⟨b1,o1,none⟩) 7 c1]) (fun s hs=>⟨curve_rep rfl (show 0<2 by decide),⟨c1,hc1,rfl,show 1<2 by decide⟩,trivial⟩)
  (fun s hs=>⟨show 0<2 by decide,fold_row rfl hfo,show 1<2 by decide,l32_row rfl hx (hs 0 (by decide)),trivial⟩) (fun r l hl hr=>by cases hr) ?_ (fun r q _ _ h=>by cases h) (fun _ _ _ i b h=>by cases h) ?_
 ·intro r _
  show (if r=0 then (bf,of) else (b1,o1)).1<_
  split
  ·exact hfo.lt
  ·exact hx.lt
 ·intro s hs hH st' β' a' w' v hv hm hag hr hbe
  have lw:=law41 (hs 0 (by decide)) hH
  have hl:lookup 3 st'.mem=some row41:=by
   have:[lookup 3 st'.mem]=[some row41]:=hm
   simpa using this
  obtain ⟨hrn,hc⟩:=hr.mem 3 _ hl
  obtain ⟨f1,f2,f3⟩:=hr.fresh 3 (show 2≤3 by decide) hrn
  have hv':v=.slice (some (at_ β' 3 0)) 28 28:=hv.1
  have hget:∀ k,k<28→row41[k]?=some (.num .u8 (2+2*k)):=by
   intro k hk
   have e:row41=(List.range 28).map fun k=>.num .u8 (2+2*k):=rfl
   rw [e,List.getElem?_map,List.getElem?_range hk]
   rfl
  refine ⟨v,rfl,(β' 3).1,f1,f2,by rw [hv',at_,f3],fun k hk=>?_,fun k hk=>?_,hbe⟩
  ·obtain ⟨u,u1,u2⟩:=hc k _ (hget k hk)
   rw [u2.1,lw k hk,at_,f3,Nat.zero_add] at u1
   exact u1
  ·have:=hr.frz 3 _ hl (.inl (show 2≤3 by decide)) k (by have e:row41.length=28:=rfl; omega)
   rw [at_,f3,Nat.zero_add] at this
   exact this
def x41:X:=fun F st args=>match args with
 | [cv,.one x]=>match isCurve st cv,x.asSl with
  | some _,some (r1,o1,7)=>match elS st.mem r1 o1,F.dec st.nx with
   | some (.v i),some true=>some (.one (.slc st.nr 0 28 28),{ st with mem:=(st.nr,byts down i) :: st.mem,nr:=st.nr+1,nx:=st.nx+1,exs:=.op 4 [.v i,.c pq] :: st.exs })
   | _,_=>none
  | _,_=>none
 | _=>none
theorem x41_ok:XOk Try.prog 41 x41:=by
 refine ⟨fun {F st st' args av} h=>?_,fun {s β F w0 st st' a w args vs av} hr h hargs hH=>?_⟩
 ·unfold x41 at h
  split at h
  ·split at h
   ·split at h
    ·cases h; exact ⟨⟨[_],rfl,rfl⟩,Nat.le_succ _⟩
    ·cases h
   ·cases h
  ·cases h
 ·unfold x41 at h
  split at h
  ·rename_i cv x
   split at h
   ·rename_i q r1 o1 hcv hx
    split at h
    ·rename_i i hl hdec
     cases h
     obtain ⟨u0,u,rfl,hu0,hu⟩:=avs2 hargs
     obtain ⟨rf,of⟩:=q
     obtain ⟨c0,c1,c2⟩:=isCurve_rep hr hcv hu0
     obtain ⟨⟨ca,hva,hca⟩,_⟩:=asSl_rep hx hu
     have he:s st.nx=if s i<pq then 1 else 0:=hH.1
     have hd:=hr.dec _ _ hdec
     have hlt:s i<pq:=by
      by_cases hc:s i<pq
      ·exact hc
      ·rw [if_neg hc] at he
       rw [he] at hd
       cases hd
     have hme:=meets41 w (β rf).1 ((β rf).2+of) (β r1).1 ((β r1).2+o1) ca _ hca c1 (elS_rep hr hl)
     intro o' a' next Q hn
     rw [c0,hva]
     refine hme o' a' next Q fun v' w' ⟨b,h1,h2,h3,h4,h6,h7⟩=>hn _ _ ?_
     obtain ⟨β',hag,hnew,hrel⟩:=hr.came h1 h2 h7 (l:=byts down i) (fun j x hx=>by
      have hj:j<28:=by
       have:=(List.getElem?_eq_some_iff.1 hx).1
       simpa [byts] using this
      rw [byts,List.getElem?_map,List.getElem?_range hj] at hx
      cases hx
      exact ⟨_,h4 j hj,fun β' n=>⟨rfl,hlt⟩⟩) (fun j hj=>h6 j (by simpa [byts] using hj)) (st.nx+1) (.op 4 [.v i,.c pq] :: st.exs)
     refine ⟨β',hag,⟨?_,Nat.lt_succ_self _⟩,hrel⟩
     rw [h3,at_,hnew]
    ·cases h
   ·cases h
  ·cases h
end P224
