/- The reference's words: carried. -/
import Derived.Test.YtccmmkgiamcgeaaGH1
set_option linter.all false
namespace P224
open Go Go.RowKit Go.Proofs
set_option maxRecDepth 100000
set_option linter.unusedVariables false
theorem sgn_range {x:Nat} (h:x<2 ^ 64):-2 ^ 63≤sgn x∧sgn x<2 ^ 63:=by
 unfold sgn
 split <;> omega
theorem sgn_add {x y:Nat} (hx:x<2 ^ 64) (hy:y<2 ^ 64) (h1:-2 ^ 63≤sgn x+sgn y) (h2:sgn x+sgn y<2 ^ 63):sgn ((x+y) % 2 ^ 64)=sgn x+sgn y:=by
 have m1:=sgn_mod x
 have m2:=sgn_mod y
 have m3:=sgn_mod ((x+y) % 2 ^ 64)
 have r3:=sgn_range (Nat.mod_lt (x+y) (show 0<2 ^ 64 by decide))
 have hz:((x+y) % 2 ^ 64:Nat)<2 ^ 64:=Nat.mod_lt _ (by decide)
 generalize hq:(x+y) % 2 ^ 64=q at *
 omega
theorem sgn_mask (x:Nat):((x &&& 4294967295:Nat):Int)=sgn x % 4294967296:=by
 rw [and_low]
 unfold sgn
 split <;> omega
theorem sgn_nat {x:Nat} (h:x<2 ^ 63):sgn x=x:=if_pos h
theorem sgn_sar (x:Nat) (hx:x<2 ^ 64):sgn (sarN 32 x)=sgn x / 4294967296∧sarN 32 x<2 ^ 64:=by
 obtain ⟨h1,h2⟩:=sar_sgn (n:=32) hx
 refine ⟨?_,h2⟩
 rw [← h1,Int.fdiv_eq_ediv_of_nonneg _ (by decide)]
 rfl
theorem dig7 {d0 d1 d2 d3 d4 d5 d6 V:Nat} (h0:d0<4294967296) (h1:d1<4294967296) (h2:d2<4294967296) (h3:d3<4294967296) (h4:d4<4294967296) (h5:d5<4294967296) (h6:d6<4294967296)
  (hV:V=d0+4294967296*(d1+4294967296*(d2+4294967296*(d3+4294967296*(d4+4294967296*(d5+4294967296*d6)))))) (k:Nat) (hk:k<7) :
  V / 2 ^ (32*k) % 2 ^ 32=[d0,d1,d2,d3,d4,d5,d6].getD k 0:=by
 have e1:∀ q:Nat,q / 4294967296 / 4294967296=q / 2 ^ 64:=fun q=>by rw [Nat.div_div_eq_div_mul]
 have:k=0∨k=1∨k=2∨k=3∨k=4∨k=5∨k=6:=by omega
 have step:∀ (d q:Nat),d<4294967296→(d+4294967296*q) / 4294967296=q∧(d+4294967296*q) % 4294967296=d:=fun d q h=>by omega
 have pw:∀ m:Nat,V / 2 ^ (32*(m+1))=V / 2 ^ (32*m) / 4294967296:=fun m=>by
  rw [Nat.div_div_eq_div_mul,Nat.mul_succ,Nat.pow_add]
 have p0:V / 2 ^ (32*0)=V:=by simp
 have v1:V / 2 ^ (32*1)=d1+4294967296*(d2+4294967296*(d3+4294967296*(d4+4294967296*(d5+4294967296*d6)))):=by
  rw [pw 0,p0,hV]
  exact (step _ _ h0).1
 have v2:V / 2 ^ (32*2)=d2+4294967296*(d3+4294967296*(d4+4294967296*(d5+4294967296*d6))):=by
  rw [pw 1,v1]
  exact (step _ _ h1).1
 have v3:V / 2 ^ (32*3)=d3+4294967296*(d4+4294967296*(d5+4294967296*d6)):=by
  rw [pw 2,v2]
  exact (step _ _ h2).1
 have v4:V / 2 ^ (32*4)=d4+4294967296*(d5+4294967296*d6):=by
  rw [pw 3,v3]
  exact (step _ _ h3).1
 have v5:V / 2 ^ (32*5)=d5+4294967296*d6:=by
  rw [pw 4,v4]
  exact (step _ _ h4).1
 have v6:V / 2 ^ (32*6)=d6:=by
  rw [pw 5,v5]
  exact (step _ _ h5).1
 rw [show (2:Nat) ^ 32=4294967296 from rfl]
 rcases this with rfl | rfl | rfl | rfl | rfl | rfl | rfl
 ·rw [p0,hV]; exact (step _ _ h0).2
 ·rw [v1]; exact (step _ _ h1).2
 ·rw [v2]; exact (step _ _ h2).2
 ·rw [v3]; exact (step _ _ h3).2
 ·rw [v4]; exact (step _ _ h4).2
 ·rw [v5]; exact (step _ _ h5).2
 ·rw [v6]; exact Nat.mod_eq_of_lt h6
def sgsFrom:Nat→Nat→List A0
 | _,0=>[]
 | i,n+1=>.sg i :: sgsFrom (i+1) n
def ex82:List Ex:=[
.op 5 [(.c 32),(.v 25)],
.and (.v 25) (.c 4294967295),
.add 64 (.v 24) (.v 6),
.op 5 [(.c 32),(.v 22)],
.and (.v 22) (.c 4294967295),
.add 64 (.v 21) (.v 5),
.op 5 [(.c 32),(.v 19)],
.and (.v 19) (.c 4294967295),
.add 64 (.v 18) (.v 4),
.op 5 [(.c 32),(.v 16)],
.and (.v 16) (.c 4294967295),
.add 64 (.v 15) (.v 3),
.op 5 [(.c 32),(.v 13)],
.and (.v 13) (.c 4294967295),
.add 64 (.v 12) (.v 2),
.op 5 [(.c 32),(.v 10)],
.and (.v 10) (.c 4294967295),
.add 64 (.v 9) (.v 1),
.op 5 [(.c 32),(.v 7)],
.and (.v 7) (.c 4294967295),
.add 64 (.c 0) (.v 0)]
def b82:BriefR:=⟨.ret,28,ex82,[(0,6,.sg 26),(0,5,.sg 23),(0,4,.sg 20),(0,3,.sg 17),(0,2,.sg 14),(0,1,.sg 11),(0,0,.sg 8)],[.one (.sg 27)],[]⟩
def st82:St:=startSt [.one (.sl 0 0 7)] [(0,sgsFrom 0 7)] 7 1
theorem tabS_ok:(tabX true [] []).Ok Try.prog:=tabX_ok noPrims_ok xnil_ok
theorem run82:briefR (tabX true [] []) Try.f82 [] (runF (tabX true [] []) (fixD 25 1 [0] [] []) 2000 Try.f82 st82)=some b82:=by kernel_rfl
abbrev smallI (x:Int):Prop:=-72057594037927936≤x∧x≤72057594037927936
theorem step82 {a w c:Nat} {d c':Nat} (ha:a=(c+w) % 2 ^ 64) (hd:d=a &&& 4294967295) (hc':c'=sarN 32 a) (hc:c<2 ^ 64) (hw:w<2 ^ 64) (sc:smallI (sgn c)) (sw:smallI (sgn w)) :
  (d:Int)=(sgn c+sgn w) % 4294967296∧sgn c'=(sgn c+sgn w) / 4294967296∧c'<2 ^ 64∧smallI (sgn c')∧d<4294967296:=by
 have e:=sgn_add hc hw (by omega) (by omega)
 rw [← ha] at e
 have ha':a<2 ^ 64:=by rw [ha]; exact Nat.mod_lt _ (by decide)
 obtain ⟨g1,g2⟩:=sgn_sar a ha'
 have g3:=sgn_mask a
 rw [← hd,e] at g3
 rw [← hc',e] at g1
 rw [← hc'] at g2
 exact ⟨g3,g1,g2,by omega,by omega⟩
theorem law82 {s:Nums} (h:Holds s 28 ex82) (hl:∀ i,i<7→s i<2 ^ 64) (hs:∀ i,i<7→smallI (sgn (s i))) :
  ∃ S:Int,S=sumW [s 0,s 1,s 2,s 3,s 4,s 5,s 6]∧sgn (s 27)=S / 2 ^ 224∧s 27<2 ^ 64 ∧
   (s 8<4294967296∧s 11<4294967296∧s 14<4294967296∧s 17<4294967296∧s 20<4294967296∧s 23<4294967296∧s 26<4294967296) ∧
   (S % 2 ^ 224).toNat=s 8+4294967296*(s 11+4294967296*(s 14+4294967296*(s 17+4294967296*(s 20+4294967296*(s 23+4294967296*s 26))))):=by
 obtain ⟨e27,e26,e25,e24,e23,e22,e21,e20,e19,e18,e17,e16,e15,e14,e13,e12,e11,e10,e9,e8,e7,_⟩:=h
 have z:sgn 0=0:=rfl
 obtain ⟨a1,a2,a3,a4,a5⟩:=step82 (a:=s 7) (c:=0) (w:=s 0) (d:=s 8) (c':=s 9) e7 e8 e9 (by decide) (hl 0 (by decide)) (by rw [z]; decide) (hs 0 (by decide))
 obtain ⟨b1,b2,b3,b4,b5⟩:=step82 (a:=s 10) (c:=s 9) (w:=s 1) (d:=s 11) (c':=s 12) e10 e11 e12 a3 (hl 1 (by decide)) a4 (hs 1 (by decide))
 obtain ⟨c1,c2,c3,c4,c5⟩:=step82 (a:=s 13) (c:=s 12) (w:=s 2) (d:=s 14) (c':=s 15) e13 e14 e15 b3 (hl 2 (by decide)) b4 (hs 2 (by decide))
 obtain ⟨d1,d2,d3,d4,d5⟩:=step82 (a:=s 16) (c:=s 15) (w:=s 3) (d:=s 17) (c':=s 18) e16 e17 e18 c3 (hl 3 (by decide)) c4 (hs 3 (by decide))
 obtain ⟨f1,f2,f3,f4,f5⟩:=step82 (a:=s 19) (c:=s 18) (w:=s 4) (d:=s 20) (c':=s 21) e19 e20 e21 d3 (hl 4 (by decide)) d4 (hs 4 (by decide))
 obtain ⟨g1,g2,g3,g4,g5⟩:=step82 (a:=s 22) (c:=s 21) (w:=s 5) (d:=s 23) (c':=s 24) e22 e23 e24 f3 (hl 5 (by decide)) f4 (hs 5 (by decide))
 obtain ⟨h1,h2,h3,h4,h5⟩:=step82 (a:=s 25) (c:=s 24) (w:=s 6) (d:=s 26) (c':=s 27) e25 e26 e27 g3 (hl 6 (by decide)) g4 (hs 6 (by decide))
 rw [z,Int.zero_add] at a1 a2
 have eS:sumW [s 0,s 1,s 2,s 3,s 4,s 5,s 6]=sgn (s 0)+4294967296*(sgn (s 1)+4294967296*(sgn (s 2)+4294967296*(sgn (s 3)+4294967296*(sgn (s 4)+4294967296*(sgn (s 5)+4294967296*(sgn (s 6)+4294967296*0)))))):=rfl
 have key:sumW [s 0,s 1,s 2,s 3,s 4,s 5,s 6]=(s 8+4294967296*(s 11+4294967296*(s 14+4294967296*(s 17+4294967296*(s 20+4294967296*(s 23+4294967296*s 26))))):Nat)+2 ^ 224*sgn (s 27):=by
  rw [eS]
  have q0:sgn (s 0)=s 8+4294967296*sgn (s 9):=by omega
  have q1:sgn (s 9)+sgn (s 1)=s 11+4294967296*sgn (s 12):=by omega
  have q2:sgn (s 12)+sgn (s 2)=s 14+4294967296*sgn (s 15):=by omega
  have q3:sgn (s 15)+sgn (s 3)=s 17+4294967296*sgn (s 18):=by omega
  have q4:sgn (s 18)+sgn (s 4)=s 20+4294967296*sgn (s 21):=by omega
  have q5:sgn (s 21)+sgn (s 5)=s 23+4294967296*sgn (s 24):=by omega
  have q6:sgn (s 24)+sgn (s 6)=s 26+4294967296*sgn (s 27):=by omega
  clear a1 a2 b1 b2 c1 c2 d1 d2 f1 f2 g1 g2 h1 h2 e27 e26 e25 e24 e23 e22 e21 e20 e19 e18 e17 e16 e15 e14 e13 e12 e11 e10 e9 e8 e7
  omega
 have hlt:s 8+4294967296*(s 11+4294967296*(s 14+4294967296*(s 17+4294967296*(s 20+4294967296*(s 23+4294967296*s 26)))))<2 ^ 224:=by
  clear a1 a2 b1 b2 c1 c2 d1 d2 f1 f2 g1 g2 h1 h2 e27 e26 e25 e24 e23 e22 e21 e20 e19 e18 e17 e16 e15 e14 e13 e12 e11 e10 e9 e8 e7 key eS
  omega
 refine ⟨_,rfl,?_,h3,⟨a5,b5,c5,d5,f5,g5,h5⟩,?_⟩
 ·rw [key]
  generalize (s 8+4294967296*(s 11+4294967296*(s 14+4294967296*(s 17+4294967296*(s 20+4294967296*(s 23+4294967296*s 26))))))=V at hlt ⊢
  omega
 ·rw [key]
  generalize (s 8+4294967296*(s 11+4294967296*(s 14+4294967296*(s 17+4294967296*(s 20+4294967296*(s 23+4294967296*s 26))))))=V at hlt ⊢
  omega
end P224
/- The reference's words: carried, as a call that the executor knows; words of elements; Below and Same. -/
namespace P224
open Go Go.RowKit Go.Proofs
set_option maxRecDepth 100000
set_option linter.unusedVariables false
def row32 (V:Nat):List Value:=(List.range 7).map fun k=>.int .i64 ((V / 2 ^ (32*k) % 2 ^ 32:Nat):Int)
theorem row32_eq {d0 d1 d2 d3 d4 d5 d6 V:Nat} (h:d0<4294967296∧d1<4294967296∧d2<4294967296∧d3<4294967296∧d4<4294967296∧d5<4294967296∧d6<4294967296)
  (hV:V=d0+4294967296*(d1+4294967296*(d2+4294967296*(d3+4294967296*(d4+4294967296*(d5+4294967296*d6)))))) :
  row32 V=[.int .i64 (d0:Int),.int .i64 (d1:Int),.int .i64 (d2:Int),.int .i64 (d3:Int),.int .i64 (d4:Int),.int .i64 (d5:Int),.int .i64 (d6:Int)]:=by
 obtain ⟨h0,h1,h2,h3,h4,h5,h6⟩:=h
 have g:=dig7 h0 h1 h2 h3 h4 h5 h6 hV
 show [Value.int .i64 ((V / 2 ^ (32*0) % 2 ^ 32:Nat):Int),.int .i64 ((V / 2 ^ (32*1) % 2 ^ 32:Nat):Int),.int .i64 ((V / 2 ^ (32*2) % 2 ^ 32:Nat):Int),.int .i64 ((V / 2 ^ (32*3) % 2 ^ 32:Nat):Int),.int .i64 ((V / 2 ^ (32*4) % 2 ^ 32:Nat):Int),.int .i64 ((V / 2 ^ (32*5) % 2 ^ 32:Nat):Int),.int .i64 ((V / 2 ^ (32*6) % 2 ^ 32:Nat):Int)]=_
 rw [g 0 (by decide),g 1 (by decide),g 2 (by decide),g 3 (by decide),g 4 (by decide),g 5 (by decide),g 6 (by decide)]
 rfl
theorem row_sgs {s:Nums} {β:Places} {n r:Nat} {w:World}:∀ (m i j:Nat),(∀ k,k<m→w.cell? (at_ β r (j+k))=some (.int .i64 (sgn (s (i+k))))∧s (i+k)<2 ^ 64)→RowOk s β n r w j (sgsFrom i m)
 | 0,_,_,_=>trivial
 | m+1,i,j,h=>by
  refine ⟨?_,row_sgs m (i+1) (j+1) fun k hk=>?_⟩
  ·obtain ⟨h1,h2⟩:=h 0 (by omega)
   exact ⟨_,h1,rfl,h2⟩
  ·have:=h (k+1) (by omega)
   rw [show j+1+k=j+(k+1) by omega,show i+1+k=i+(k+1) by omega]
   exact this
theorem sgs_len:∀ (n i:Nat),(sgsFrom i n).length=n
 | 0,_=>rfl
 | n+1,i=>by rw [sgsFrom,List.length_cons,sgs_len n]
def SgAt (w:World) (b o n:Nat) (u:Nat→Nat):Prop:=∀ k,k<n→w.cell? ⟨b,o+k,none⟩=some (.int .i64 (sgn (u k)))∧u k<2 ^ 64
theorem toNat_sgn {u:Nat} (h:u<2 ^ 64):(sgn u % 2 ^ 64).toNat=u:=by
 have:=sgn_mod u
 unfold sgn at *
 split <;> omega
theorem meets82 (w:World) (b o c:Nat) (u:Nat→Nat) (hc:7≤c) (hb:b<w.heap.size) (hu:SgAt w b o 7 u) (hf:∀ k,k<7→w.frozen? ⟨b,o+k,none⟩=false) (hs:∀ k,k<7→smallI (sgn (u k))) :
  Meets Try.prog 82 #[.slice (some ⟨b,o,none⟩) 7 c] w fun v w'=>v=.int .i64 (sgn (opVal 8 [u 0,u 1,u 2,u 3,u 4,u 5,u 6]))∧opVal 8 [u 0,u 1,u 2,u 3,u 4,u 5,u 6]<2 ^ 64∧opVal 7 [u 0,u 1,u 2,u 3,u 4,u 5,u 6]<2 ^ 224 ∧
   Below w.heap.size (w.setCells b o (row32 (opVal 7 [u 0,u 1,u 2,u 3,u 4,u 5,u 6]))) w':=by
 refine meets_of_calls Try.func82 (by kernel_rfl) (by kernel_rfl) ?_
 let β:Places:=fun _=>(b,o)
 refine calls_briefR (F:=fixD 25 1 [0] [] []) tabS_ok run82 Try.func82 Try.ntmps82 rfl (by decide +kernel) (by decide +kernel) (by decide +kernel) (show 1≤25 by decide) (show 1<4095 by decide) u β
  (vals:=[.slice (some ⟨b,o,none⟩) 7 c]) (fun s hs=>⟨⟨c,hc,rfl,show 0<1 by decide⟩,trivial⟩) ?_ ?_ (fun r _=>hb) (fun r q _ _ h=>by cases h) (fun _ _ _ i b h=>by cases h) ?_
 ·intro s hs'
  refine ⟨show 0<1 by decide,row_sgs 7 0 0 fun k hk=>?_,trivial⟩
  rw [Nat.zero_add,hs' k hk]
  exact hu k hk
 ·intro r l hl hr j hj
  have hm:=List.elem_iff.1 hr
  simp only [List.mem_cons,List.not_mem_nil,or_false] at hm
  subst hm
  cases hl
  exact hf j (by simpa [sgs_len] using hj)
 ·intro s hs' hH st' β' a' w' v hv _ hag hr hbe
  have hin:∀ k,k<7→s k=u k:=fun k hk=>hs' k hk
  obtain ⟨S,hS,h27,l27,hd,hV⟩:=law82 hH (fun i hi=>by rw [hin i hi]; exact (hu i hi).2) (fun i hi=>by rw [hin i hi]; exact hs i hi)
  rw [hin 0 (by decide),hin 1 (by decide),hin 2 (by decide),hin 3 (by decide),hin 4 (by decide),hin 5 (by decide),hin 6 (by decide)] at hS
  have e8:opVal 8 [u 0,u 1,u 2,u 3,u 4,u 5,u 6]=s 27:=by
   show (sumW [u 0,u 1,u 2,u 3,u 4,u 5,u 6] / 2 ^ 224 % 2 ^ 64).toNat=s 27
   rw [← hS,← h27]
   exact toNat_sgn l27
  have e7:opVal 7 [u 0,u 1,u 2,u 3,u 4,u 5,u 6]=(S % 2 ^ 224).toNat:=by rw [hS]; rfl
  rw [e8,e7]
  have hv':v=.int .i64 (sgn (s 27)):=hv.1
  refine ⟨_,rfl,hv',l27,by omega,?_⟩
  rw [row32_eq hd hV]
  have hbe':Below w.heap.size (applyOut s β' w [(0,6,.sg 26),(0,5,.sg 23),(0,4,.sg 20),(0,3,.sg 17),(0,2,.sg 14),(0,1,.sg 11),(0,0,.sg 8)]) w':=hbe
  have e:applyOut s β' w [(0,6,.sg 26),(0,5,.sg 23),(0,4,.sg 20),(0,3,.sg 17),(0,2,.sg 14),(0,1,.sg 11),(0,0,.sg 8)] =
    ((((((w.setCell (at_ β' 0 0) (.int .i64 (sgn (s 8)))).setCell (at_ β' 0 1) (.int .i64 (sgn (s 11)))).setCell (at_ β' 0 2) (.int .i64 (sgn (s 14)))).setCell (at_ β' 0 3) (.int .i64 (sgn (s 17)))).setCell (at_ β' 0 4) (.int .i64 (sgn (s 20)))).setCell (at_ β' 0 5) (.int .i64 (sgn (s 23)))).setCell (at_ β' 0 6) (.int .i64 (sgn (s 26))):=rfl
  obtain ⟨h0,h1,h2,h3,h4,h5,h6⟩:=hd
  rw [e,sgn_nat (by omega),sgn_nat (by omega),sgn_nat (by omega),sgn_nat (by omega),sgn_nat (by omega),sgn_nat (by omega),sgn_nat (by omega)] at hbe'
  have hb0:β' 0=(b,o):=hag 0 (by decide)
  simp only [at_,hb0] at hbe'
  exact hbe'
def swordRow:List A0→Option (List Wd)
 | []=>some []
 | a :: l=>match a.sword,swordRow l with
  | some x,some m=>some (x :: m)
  | _,_=>none
theorem swordRow_get:∀ {l:List A0} {m:List Wd},swordRow l=some m→m.length=l.length∧∀ (j:Nat) x,m[j]?=some x→∃ a,l[j]?=some a∧a.sword=some x
 | [],m,h=>by cases h; exact ⟨rfl,fun j x h=>by simp at h⟩
 | a :: l,m,h=>by
  simp only [swordRow] at h
  split at h
  ·rename_i y m' hy hm
   cases h
   obtain ⟨h1,h2⟩:=swordRow_get hm
   refine ⟨by simp [h1],fun j x hx=>?_⟩
   cases j with
   | zero=>cases hx; exact ⟨a,rfl,hy⟩
   | succ j=>simpa using h2 j x (by simpa using hx)
  ·cases h
def swordsAt (m:List (Nat × List A0)) (r o n:Nat):Option (List Wd) :=
 match cellsAt m r o n with
 | some l=>swordRow l
 | none=>none
section
variable {s:Nums} {β:Places} {F:Fix} {w0:World} {st:St} {a:Act} {w:World}
theorem swordsAt_rep (h:Rel F s β w0 st a w) {r o n:Nat} {l:List Wd} (hw:swordsAt st.mem r o n=some l) :
  l.length=n∧r<st.nr∧SgAt w (β r).1 ((β r).2+o) n (fun k=>(vals s l).getD k 0):=by
 unfold swordsAt at hw
 split at hw
 ·rename_i m hm
  obtain ⟨q,hq,hlen,hle,hj⟩:=cellsAt_ok (nr:=0) hm
  obtain ⟨hr,hc⟩:=h.mem r q hq
  obtain ⟨g1,g2⟩:=swordRow_get hw
  refine ⟨by omega,hr,fun k hk=>?_⟩
  obtain ⟨x,hx⟩:∃ x,l[k]?=some x:=⟨l[k]'(by omega),List.getElem?_eq_getElem _⟩
  obtain ⟨y,hy,hyx⟩:=g2 k x hx
  obtain ⟨v,h1,h2⟩:=hc (o+k) y (by rw [← hj k hk]; exact hy)
  obtain ⟨rfl,h3⟩:=sword_rep hyx h2
  have e:(vals s l).getD k 0=x.val s:=by rw [List.getD_eq_getElem?_getD,vals,List.getElem?_map,hx]; rfl
  rw [at_,← Nat.add_assoc,← e] at h1
  rw [← e] at h3
  exact ⟨h1,h3⟩
 ·cases hw
theorem seven {L:List Nat} (h:L.length=7):[L.getD 0 0,L.getD 1 0,L.getD 2 0,L.getD 3 0,L.getD 4 0,L.getD 5 0,L.getD 6 0]=L:=by
 match L,h with
 | [a,b,c,d,e,f,g],_=>rfl
def l32s (i:Nat):List A0:=(List.range 7).map fun k=>.l32 i k
theorem l32s_conc (i:Nat):(l32s i).map (A0.conc s β)=row32 (s i):=by
 rw [l32s,List.map_map]
 rfl
theorem l32s_rep {i:Nat} (h:s i<2 ^ 224) {n:Nat}:∀ x ∈ l32s i,x.rep s β n (x.conc s β):=by
 intro x hx
 obtain ⟨k,_,rfl⟩:=List.mem_map.1 hx
 exact ⟨rfl,h⟩
theorem smallW_small {l:List Nat} (h:smallW l=true) {k:Nat} (hk:k<l.length) (hl:l.getD k 0<2 ^ 64):smallI (sgn (l.getD k 0)):=by
 have hm:l.getD k 0 ∈ l:=by
  rw [List.getD_eq_getElem?_getD,List.getElem?_eq_getElem hk]
  exact List.getElem_mem hk
 have:=List.all_eq_true.1 h _ hm
 simp only [Bool.or_eq_true,decide_eq_true_eq] at this
 generalize l.getD k 0=u at *
 unfold smallI sgn
 split <;> omega
end
def x82:X:=fun F st args=>match args with
 | [.one y]=>match y.asSl with
  | some (r,o,7)=>match swordsAt st.mem r o 7,F.dec st.nx with
   | some l,some true=>match write F { st with nx:=st.nx+3,exs:=.op 8 l :: .op 7 l :: .op 1 l :: st.exs } r o (l32s (st.nx+1)) with
    | some st'=>some (.one (.sg (st.nx+2)),st')
    | none=>none
   | _,_=>none
  | _=>none
 | _=>none
theorem x82_ok:XOk Try.prog 82 x82:=by
 refine ⟨fun {F st st' args av} h=>?_,fun {s β F w0 st st' a w args vs av} hr h hargs hH=>?_⟩
 ·unfold x82 at h
  split at h
  ·split at h
   ·split at h
    ·split at h
     ·rename_i hw; cases h; exact write_grows hw ⟨⟨[_,_,_],rfl,rfl⟩,Nat.le_refl _⟩
     ·cases h
    ·cases h
   ·cases h
  ·cases h
 ·unfold x82 at h
  split at h
  ·rename_i y
   obtain ⟨v,rfl,hv⟩:=avs1 hargs
   split at h
   ·rename_i r o hy
    obtain ⟨⟨c,hv2,hc⟩,hrn⟩:=asSl_rep hy hv
    split at h
    ·rename_i l hl hdec
     split at h
     ·rename_i st1 hw
      cases h
      have h':=hr.nums (st.nx+3) (.op 8 l :: .op 7 l :: .op 1 l :: st.exs)
      obtain ⟨_,hnx,hex,_⟩:=write_nr hw
      rw [hnx,hex] at hH
      have e2:s (st.nx+2)=opVal 8 (vals s l):=hH.1
      have e1:s (st.nx+1)=opVal 7 (vals s l):=hH.2.1
      have e0:s st.nx=if smallW (vals s l)=true then 1 else 0:=hH.2.2.1
      have hd:=hr.dec _ _ hdec
      have hsm:smallW (vals s l)=true:=by
       by_cases hc:smallW (vals s l)=true
       ·exact hc
       ·rw [if_neg hc] at e0
        rw [e0] at hd
        cases hd
      obtain ⟨hlen,_,hsg⟩:=swordsAt_rep hr hl
      have hvl:(vals s l).length=7:=by rw [vals,List.length_map,hlen]
      obtain ⟨_,hroom⟩:=room_of h' hw (n:=7) (by simp [l32s])
      have hm:=meets82 w (β r).1 ((β r).2+o) c _ hc (hr.block_lt hrn) hsg (fun k hk=>(hroom k hk).2) (fun k hk=>smallW_small hsm (by omega) (hsg k hk).2)
      rw [seven hvl] at hm
      intro o' a' next Q hn
      rw [hv2]
      refine hm o' a' next Q fun v' w' ⟨hv',hl64,hl224,hb⟩=>hn _ _ ?_
      refine ⟨β,Agree.refl _ _,⟨by rw [hv',e2],by rw [e2]; exact hl64⟩,h'.wrote hw ?_ (l32s_rep (by rw [e1]; exact hl224))⟩
      rw [l32s_conc,e1]
      exact hb
     ·cases h
    ·cases h
   ·cases h
  ·cases h
end P224
/- The reference's elements: Below and Same. -/
namespace P224
open Go Go.RowKit Go.Proofs
set_option maxRecDepth 100000
set_option linter.unusedVariables false
def D (x k:Nat):Nat:=x / 2 ^ (32*k) % 2 ^ 32
theorem D_lt (x k:Nat):D x k<2 ^ 32:=Nat.mod_lt _ (by decide)
theorem pow32 (k:Nat):2 ^ (32*(k+1))=2 ^ (32*k)*2 ^ 32:=by rw [Nat.mul_succ,Nat.pow_add]
theorem div32 (x k:Nat):x / 2 ^ (32*(k+1))=x / 2 ^ (32*k) / 2 ^ 32:=by rw [pow32,Nat.div_div_eq_div_mul]
theorem high_eq {x y:Nat} (hx:x<2 ^ 224) (hy:y<2 ^ 224):∀ n:Nat,n≤7→(∀ i,7 - n≤i→i<7→D x i=D y i)→x / 2 ^ (32*(7 - n))=y / 2 ^ (32*(7 - n))
 | 0,_,_=>by
  rw [show 32*(7 - 0)=224 from rfl,Nat.div_eq_of_lt hx,Nat.div_eq_of_lt hy]
 | n+1,hn,h=>by
  have ih:=high_eq hx hy n (by omega) fun i h1 h2=>h i (by omega) h2
  have hd:=h (7 - (n+1)) (Nat.le_refl _) (by omega)
  rw [show 7 - n=(7 - (n+1))+1 by omega,div32,div32] at ih
  unfold D at hd
  generalize x / 2 ^ (32*(7 - (n+1)))=a at *
  generalize y / 2 ^ (32*(7 - (n+1)))=b at *
  omega
theorem lt_of_D {x y k:Nat} (hx:x<2 ^ 224) (hy:y<2 ^ 224) (hk:k<7) (h:∀ i,k<i→i<7→D x i=D y i) (hd:D x k<D y k):x<y:=by
 have e:=high_eq hx hy (7 - (k+1)) (by omega) fun i h1 h2=>h i (by omega) h2
 rw [show 7 - (7 - (k+1))=k+1 by omega,div32,div32] at e
 unfold D at hd
 have h1:x / 2 ^ (32*k)<y / 2 ^ (32*k):=by
  generalize x / 2 ^ (32*k)=a at *
  generalize y / 2 ^ (32*k)=b at *
  omega
 rcases Nat.lt_or_ge x y with hlt | hge
 ·exact hlt
 ·have:=Nat.div_le_div_right (c:=2 ^ (32*k)) hge
  omega
theorem eq_of_D {x y:Nat} (hx:x<2 ^ 224) (hy:y<2 ^ 224) (h:∀ i,i<7→D x i=D y i):x=y:=by
 have:=high_eq hx hy 7 (Nat.le_refl _) fun i _ h2=>h i h2
 simpa using this
def El (w:World) (b o x:Nat):Prop:=(∀ k,k<7→w.cell? ⟨b,o+k,none⟩=some (.int .i64 (D x k:Int)))∧x<2 ^ 224
theorem l32_row {s:Nums} {β:Places} {n r i b o x:Nat} {w:World} (hβ:β r=(b,o)) (h:El w b o x) (hs:s i=x):RowOk s β n r w 0 (l32s i):=by
 obtain ⟨h1,h2⟩:=h
 have key:∀ k,k<7→∃ v,w.cell? (at_ β r k)=some v∧(A0.l32 i k).rep s β n v:=fun k hk=>by
  refine ⟨_,by rw [at_,hβ]; exact h1 k hk,?_,?_⟩
  ·rw [hs]; rfl
  ·rw [hs]; exact h2
 exact ⟨key 0 (by decide),key 1 (by decide),key 2 (by decide),key 3 (by decide),key 4 (by decide),key 5 (by decide),key 6 (by decide),trivial⟩
theorem El.lt {w:World} {b o x:Nat} (h:El w b o x):b<w.heap.size:=World.block_lt_of_cell? w _ (h.1 0 (by decide))
def st64:St:=startSt [.one (.sl 0 0 7),.one (.sl 1 0 7)] [(0,l32s 0),(1,l32s 1)] 2 2
def fneD:Nat→List Ex
 | 0=>[]
 | n+1=>.fne (.w 0 (6 - n)) (.w 1 (6 - n)) :: fneD n
def fix64 (nt j:Nat):Fix:={ nt:=nt,nold:=2,wr:=fun _=>false,sep:=fun _ _=>false,dec:=fun i=>bif decide (i<2) then none else bif decide (i<2+j) then some false else bif decide (i=2+j) && decide (j<7) then some true else none }
def want64 (j:Nat):Brief:=bif decide (j<7) then some (.ret,4+j,.op 3 [.w 0 (6 - j),.w 1 (6 - j)] :: fneD (j+1),[],[some (.one (.bl (3+j)))])
 else some (.ret,9,fneD 7,[],[some (.one (.lit (.bool false)))])
def scopeOk (n0:Nat):Brief→Bool
 | some (_,n,e,_,_)=>inScope n e && decide (e.length≤n) && n - e.length == n0
 | none=>false
theorem run64:((List.range 8).all fun j=>briefSame (brief [4] (runF (tabX true [] []) (fix64 31 j) 2000 Try.f64 st64)) (want64 j) && scopeOk 2 (want64 j))=true:=by kernel_rfl
def fneU:Nat→List Ex
 | 0=>[]
 | n+1=>.fne (.w 0 n) (.w 1 n) :: fneU n
def want57 (j:Nat):Brief:=bif decide (j<7) then some (.ret,3+j,fneU (j+1),[],[some (.one (.lit (.bool false)))])
 else some (.ret,9,fneU 7,[],[some (.one (.lit (.bool true)))])
theorem run57:((List.range 8).all fun j=>briefSame (brief [4] (runF (tabX true [] []) (fix64 21 j) 2000 Try.f57 st64)) (want57 j) && scopeOk 2 (want57 j))=true:=by kernel_rfl
theorem fneD_holds {s:Nums}:∀ n,Holds s (2+n) (fneD n)→∀ k,k<n→s (2+k)=if D (s 0) (6 - k)=D (s 1) (6 - k) then 0 else 1
 | 0,_,k,hk=>by omega
 | n+1,h,k,hk=>by
  obtain ⟨h1,h2⟩:=h
  rw [show 2+(n+1) - 1=2+n by omega] at h1 h2
  by_cases e:k=n
  ·subst e; exact h1
  ·exact fneD_holds n h2 k (by omega)
theorem fneU_holds {s:Nums}:∀ n,Holds s (2+n) (fneU n)→∀ k,k<n→s (2+k)=if D (s 0) k=D (s 1) k then 0 else 1
 | 0,_,k,hk=>by omega
 | n+1,h,k,hk=>by
  obtain ⟨h1,h2⟩:=h
  rw [show 2+(n+1) - 1=2+n by omega] at h1 h2
  by_cases e:k=n
  ·subst e; exact h1
  ·exact fneU_holds n h2 k (by omega)
theorem calls_els {g:FuncId} {fn:Func} {nt j n:Nat} {ex:List Ex} {avs:List (Option AV)} (hnt:fn.ntmps=nt) (h2:2≤nt) (hf:Try.prog.funcs[g]?=some fn) (hres:fn.results=#[.tmp 4])
  (hb:brief [4] (runF (tabX true [] []) (fix64 nt j) 2000 fn st64)=some (.ret,n,ex,[],avs)) (hs:inScope n ex=true∧ex.length≤n∧n - ex.length=2)
  (w:World) (b1 o1 c1 b2 o2 c2 x y:Nat) (hc1:7≤c1) (hc2:7≤c2) (hx:El w b1 o1 x) (hy:El w b2 o2 y) {R:Ending→World→Prop}
  (hdec:∀ s:Nums,s 0=x→s 1=y→Holds s n ex→Dec (fix64 nt j) s)
  (fin:∀ s:Nums,s 0=x→s 1=y→Holds s n ex→∀ (β:Places) (nr:Nat) (v:Value) (w':World),(∀ av,avs=[some av]→av.rep s β nr v)→Below w.heap.size w w'→R (.returned v) w') :
  Calls Try.prog g #[.slice (some ⟨b1,o1,none⟩) 7 c1,.slice (some ⟨b2,o2,none⟩) 7 c2] w R:=by
 let β:Places:=fun r=>if r=0 then (b1,o1) else (b2,o2)
 let s0:Nums:=fun i=>if i=0 then x else y
 refine calls_brief (F:=fix64 nt j) tabS_ok hb hf hnt (res:=some 4) ⟨.inr rfl,hres⟩ hs.1 hs.2.1 hs.2.2 (show 2≤nt from h2) (show 2<4095 by decide) s0 β
  (vals:=[.slice (some ⟨b1,o1,none⟩) 7 c1,.slice (some ⟨b2,o2,none⟩) 7 c2]) (fun s hs=>⟨⟨c1,hc1,rfl,lt02⟩,⟨c2,hc2,rfl,lt12⟩,trivial⟩) ?_ ?_ ?_ (fun r q _ _ h=>by cases h) (fun s hs' hH=>hdec s (hs' 0 (by decide)) (hs' 1 (by decide)) hH) ?_
 ·intro s hs'
  exact ⟨lt02,l32_row rfl hx (hs' 0 (by decide)),lt12,l32_row rfl hy (hs' 1 (by decide)),trivial⟩
 ·intro r l hl hr
  cases hr
 ·intro r _
  show (if r=0 then (b1,o1) else (b2,o2)).1<_
  split
  ·exact hx.lt
  ·exact hy.lt
 ·intro s hs' hH st' β' a' w' hts hag hr hbe
  refine fin s (hs' 0 (by decide)) (hs' 1 (by decide)) hH β' st'.nr _ w' (fun av hav=>?_) hbe
  exact hr.tm 4 _ (map_get hts 0 4 av rfl (by rw [hav]; rfl))
theorem dec64 {nt j:Nat} {s:Nums} (h1:∀ k,k<j→s (2+k)=0) (h2:j<7→s (2+j)=1):Dec (fix64 nt j) s:=by
 intro i b hb
 have hb':(bif decide (i<2) then none else bif decide (i<2+j) then some false else bif decide (i=2+j) && decide (j<7) then some true else none)=some b:=hb
 by_cases e1:i<2
 ·rw [decide_eq_true e1] at hb'; cases hb'
 ·rw [decide_eq_false e1] at hb'
  by_cases e2:i<2+j
  ·rw [decide_eq_true e2] at hb'
   cases hb'
   have:=h1 (i - 2) (by omega)
   rw [show 2+(i - 2)=i by omega] at this
   exact this
  ·rw [decide_eq_false e2] at hb'
   by_cases e3:i=2+j
   ·subst e3
    by_cases e4:j<7
    ·rw [decide_eq_true rfl,decide_eq_true e4] at hb'
     cases hb'
     exact h2 e4
    ·rw [decide_eq_true rfl,decide_eq_false e4] at hb'
     cases hb'
   ·rw [decide_eq_false e3] at hb'
    cases hb'
theorem meets64 (w:World) (b1 o1 c1 b2 o2 c2 x y:Nat) (hc1:7≤c1) (hc2:7≤c2) (hx:El w b1 o1 x) (hy:El w b2 o2 y) :
  Meets Try.prog 64 #[.slice (some ⟨b1,o1,none⟩) 7 c1,.slice (some ⟨b2,o2,none⟩) 7 c2] w fun v w'=>v=.bool (decide (x<y))∧Below w.heap.size w w':=by
 refine meets_of_calls Try.func64 (by kernel_rfl) (by kernel_rfl) ?_
 have hr:=fun j (hj:j<8)=>by
  have:=all_range run64 hj
  rw [Bool.and_eq_true] at this
  exact this
 rcases first_diff (fun j=>D x (6 - j)) (fun j=>D y (6 - j)) 7 with e | ⟨j,hj,e,hne⟩
 ·obtain ⟨hb,hs⟩:=hr 7 (by decide)
  have hb':=briefSame_eq hb
  rw [show want64 7=some (.ret,9,fneD 7,[],[some (.one (.lit (.bool false)))]) from rfl] at hb' hs
  simp only [scopeOk,Bool.and_eq_true,decide_eq_true_eq,beq_iff_eq] at hs
  refine calls_els Try.ntmps64 (by decide) Try.func64 Try.results64 hb' ⟨hs.1.1,hs.1.2,hs.2⟩ w b1 o1 c1 b2 o2 c2 x y hc1 hc2 hx hy ?_ ?_
  ·intro s s0 s1 hH
   refine dec64 (fun k hk=>?_) (fun h=>by omega)
   rw [fneD_holds 7 hH k hk,s0,s1,if_pos (e k hk)]
  ·intro s s0 s1 hH β nr v w' hv hbe
   have hv':v=.bool false:=hv _ rfl
   refine ⟨_,rfl,?_,hbe⟩
   have:x=y:=eq_of_D hx.2 hy.2 fun i hi=>by
    have:=e (6 - i) (by omega)
    rwa [show 6 - (6 - i)=i by omega] at this
   rw [hv',this,decide_eq_false (Nat.lt_irrefl _)]
 ·obtain ⟨hb,hs⟩:=hr j (by omega)
  have hb':=briefSame_eq hb
  have hw:want64 j=some (.ret,4+j,.op 3 [.w 0 (6 - j),.w 1 (6 - j)] :: fneD (j+1),[],[some (.one (.bl (3+j)))]):=by
   rw [want64,decide_eq_true hj]
   rfl
  rw [hw] at hb' hs
  simp only [scopeOk,Bool.and_eq_true,decide_eq_true_eq,beq_iff_eq] at hs
  refine calls_els Try.ntmps64 (by decide) Try.func64 Try.results64 hb' ⟨hs.1.1,hs.1.2,hs.2⟩ w b1 o1 c1 b2 o2 c2 x y hc1 hc2 hx hy ?_ ?_
  ·intro s s0 s1 hH
   obtain ⟨_,hH2⟩:=hH
   have hf:=fneD_holds (j+1) (by rw [show 2+(j+1)=4+j - 1 by omega]; exact hH2)
   refine dec64 (fun k hk=>?_) (fun h=>?_)
   ·rw [hf k (by omega),s0,s1,if_pos (e k hk)]
   ·rw [hf j (by omega),s0,s1,if_neg hne]
  ·intro s s0 s1 hH β nr v w' hv hbe
   obtain ⟨hH1,_⟩:=hH
   have hv':v=.bool (s (3+j) == 1):=(hv _ rfl).1
   have h3:s (3+j)=if sgn (D (s 0) (6 - j))<sgn (D (s 1) (6 - j)) then 1 else 0:=by
    have:s (4+j - 1)=_:=hH1
    rw [show 4+j - 1=3+j by omega] at this
    exact this
   have l0:=D_lt x (6 - j)
   have l1:=D_lt y (6 - j)
   rw [s0,s1,sgn_nat (by omega),sgn_nat (by omega)] at h3
   refine ⟨_,rfl,?_,hbe⟩
   rw [hv',h3]
   have hi:∀ i,6 - j<i→i<7→D x i=D y i:=fun i h1 h2=>by
    have:=e (6 - i) (by omega)
    rwa [show 6 - (6 - i)=i by omega] at this
   by_cases hlt:D x (6 - j)<D y (6 - j)
   ·rw [if_pos (by omega),decide_eq_true (lt_of_D hx.2 hy.2 (by omega) hi hlt)]
    rfl
   ·have:=lt_of_D hy.2 hx.2 (by omega) (fun i h1 h2=>(hi i h1 h2).symm) (show D y (6 - j)<D x (6 - j) by have:D x (6 - j)≠D y (6 - j):=hne; omega)
    rw [if_neg (by omega),decide_eq_false (by omega)]
    rfl
theorem meets57 (w:World) (b1 o1 c1 b2 o2 c2 x y:Nat) (hc1:7≤c1) (hc2:7≤c2) (hx:El w b1 o1 x) (hy:El w b2 o2 y) :
  Meets Try.prog 57 #[.slice (some ⟨b1,o1,none⟩) 7 c1,.slice (some ⟨b2,o2,none⟩) 7 c2] w fun v w'=>v=.bool (decide (x=y))∧Below w.heap.size w w':=by
 refine meets_of_calls Try.func57 (by kernel_rfl) (by kernel_rfl) ?_
 have hr:=fun j (hj:j<8)=>by
  have:=all_range run57 hj
  rw [Bool.and_eq_true] at this
  exact this
 rcases first_diff (fun j=>D x j) (fun j=>D y j) 7 with e | ⟨j,hj,e,hne⟩
 ·obtain ⟨hb,hs⟩:=hr 7 (by decide)
  have hb':=briefSame_eq hb
  rw [show want57 7=some (.ret,9,fneU 7,[],[some (.one (.lit (.bool true)))]) from rfl] at hb' hs
  simp only [scopeOk,Bool.and_eq_true,decide_eq_true_eq,beq_iff_eq] at hs
  refine calls_els Try.ntmps57 (by decide) Try.func57 Try.results57 hb' ⟨hs.1.1,hs.1.2,hs.2⟩ w b1 o1 c1 b2 o2 c2 x y hc1 hc2 hx hy ?_ ?_
  ·intro s s0 s1 hH
   refine dec64 (fun k hk=>?_) (fun h=>by omega)
   rw [fneU_holds 7 hH k hk,s0,s1,if_pos (e k hk)]
  ·intro s s0 s1 hH β nr v w' hv hbe
   have hv':v=.bool true:=hv _ rfl
   refine ⟨_,rfl,?_,hbe⟩
   rw [hv',decide_eq_true (eq_of_D hx.2 hy.2 e)]
 ·obtain ⟨hb,hs⟩:=hr j (by omega)
  have hb':=briefSame_eq hb
  have hw:want57 j=some (.ret,3+j,fneU (j+1),[],[some (.one (.lit (.bool false)))]):=by
   rw [want57,decide_eq_true hj]
   rfl
  rw [hw] at hb' hs
  simp only [scopeOk,Bool.and_eq_true,decide_eq_true_eq,beq_iff_eq] at hs
  refine calls_els Try.ntmps57 (by decide) Try.func57 Try.results57 hb' ⟨hs.1.1,hs.1.2,hs.2⟩ w b1 o1 c1 b2 o2 c2 x y hc1 hc2 hx hy ?_ ?_
  ·intro s s0 s1 hH
   have hf:=fneU_holds (j+1) (by rw [show 2+(j+1)=3+j by omega]; exact hH)
   refine dec64 (fun k hk=>?_) (fun h=>?_)
   ·rw [hf k (by omega),s0,s1,if_pos (e k hk)]
   ·rw [hf j (by omega),s0,s1,if_neg hne]
  ·intro s s0 s1 hH β nr v w' hv hbe
   have hv':v=.bool false:=hv _ rfl
   refine ⟨_,rfl,?_,hbe⟩
   rw [hv',decide_eq_false (fun h=>hne (by rw [h]))]
def isL32 (i:Nat):Nat→List A0→Bool
 | _,[]=>true
 | k,.l32 j q :: l=>j == i && q == k && isL32 i (k+1) l
 | _,_=>false
def litWords:List A0→Option (List Nat)
 | []=>some []
 | .lit (.int .i64 n) :: l=>bif decide (0≤n) && decide (n<4294967296) then (match litWords l with
  | some m=>some (n.toNat :: m)
  | none=>none) else none
 | _=>none
def sum32:List Nat→Nat
 | []=>0
 | d :: l=>d+4294967296*sum32 l
def elS (m:List (Nat × List A0)) (r o:Nat):Option Wd :=
 match cellsAt m r o 7 with
 | some (.l32 i q :: l)=>bif isL32 i 0 (.l32 i q :: l) then some (.v i) else none
 | some l=>match litWords l with
  | some ws=>some (.c (sum32 ws))
  | none=>none
 | none=>none
theorem isL32_spec {i:Nat}:∀ {l:List A0} {k:Nat},isL32 i k l=true→∀ (j:Nat) x,l[j]?=some x→x=.l32 i (k+j)
 | [],_,_,j,x,hx=>by simp at hx
 | y :: l,k,h,j,x,hx=>by
  unfold isL32 at h
  split at h
  ·rename_i he; cases he
  ·rename_i k' j' q l' he
   cases he
   simp only [Bool.and_eq_true,beq_iff_eq] at h
   obtain ⟨⟨rfl,rfl⟩,h3⟩:=h
   cases j with
   | zero=>cases hx; rfl
   | succ j =>
    have:=isL32_spec h3 j x (by simpa using hx)
    rw [this]
    congr 1
    omega
  ·cases h
theorem litWords_spec:∀ {l:List A0} {m:List Nat},litWords l=some m→m.length=l.length∧(∀ x ∈ m,x<4294967296)∧∀ (j:Nat) a,l[j]?=some a→a=.lit (.int .i64 (m.getD j 0:Int))
 | [],m,h=>by cases h; exact ⟨rfl,(fun x hx=>by cases hx),fun j a h=>by simp at h⟩
 | a :: l,m,h=>by
  unfold litWords at h
  split at h
  ·rename_i he; cases he
  ·rename_i n l' he
   cases he
   obtain ⟨h1,h2⟩:=bif_some h
   simp only [Bool.and_eq_true,decide_eq_true_eq] at h1
   split at h2
   ·rename_i m' hm
    cases h2
    obtain ⟨g1,g2,g3⟩:=litWords_spec hm
    refine ⟨by simp [g1],fun x hx=>?_,fun j b hb=>?_⟩
    ·rcases List.mem_cons.1 hx with rfl | hx
     ·omega
     ·exact g2 x hx
    ·cases j with
     | zero =>
      cases hb
      show _=A0.lit (.int .i64 (n.toNat:Int))
      rw [Int.toNat_of_nonneg h1.1]
     | succ j=>exact g3 j b (by simpa using hb)
   ·cases h2
  ·cases h
theorem sum32_D {m:List Nat} (h7:m.length=7) (h:∀ x ∈ m,x<4294967296):sum32 m<2 ^ 224∧∀ k,k<7→D (sum32 m) k=m.getD k 0:=by
 match m,h7 with
 | [a,b,c,d,e,f,g],_ =>
  have ha:=h a (by simp)
  have hb:=h b (by simp)
  have hc:=h c (by simp)
  have hd:=h d (by simp)
  have he:=h e (by simp)
  have hf:=h f (by simp)
  have hg:=h g (by simp)
  refine ⟨?_,fun k hk=>?_⟩
  ·show a+4294967296*(b+4294967296*(c+4294967296*(d+4294967296*(e+4294967296*(f+4294967296*(g+4294967296*0))))))<2 ^ 224
   omega
  ·exact dig7 ha hb hc hd he hf hg (V:=sum32 [a,b,c,d,e,f,g]) rfl k hk
section
variable {s:Nums} {β:Places} {F:Fix} {w0:World} {st:St} {a:Act} {w:World}
theorem elS_rep (h:Rel F s β w0 st a w) {r o:Nat} {x:Wd} (hx:elS st.mem r o=some x):El w (β r).1 ((β r).2+o) (x.val s):=by
 unfold elS at hx
 split at hx
 ·rename_i i q l hc
  obtain ⟨h1,h2⟩:=bif_some hx
  cases h2
  have sp:=isL32_spec h1
  obtain ⟨k,hk,hlen,_,hj⟩:=cellsAt_ok (nr:=0) hc
  obtain ⟨_,hcl⟩:=h.mem r k hk
  have get:∀ j,j<7→∃ v,w.cell? (at_ β r (o+j))=some v∧(A0.l32 i j).rep s β st.nr v:=fun j hj7=>by
   have hjl:j<(A0.l32 i q :: l).length:=by rw [hlen]; exact hj7
   have hsp:=sp j _ (List.getElem?_eq_getElem hjl)
   rw [Nat.zero_add] at hsp
   exact hcl (o+j) _ (by rw [← hj j hj7,List.getElem?_eq_getElem hjl,hsp])
  refine ⟨fun j hj7=>?_,?_⟩
  ·obtain ⟨v,g1,g2⟩:=get j hj7
   rw [g2.1,at_,← Nat.add_assoc] at g1
   exact g1
  ·obtain ⟨v,_,g2⟩:=get 0 (by decide)
   exact g2.2
 ·rename_i l hne hc
  split at hx
  ·rename_i ws hws
   cases hx
   obtain ⟨g1,g2,g3⟩:=litWords_spec hws
   obtain ⟨k,hk,hlen,_,hj⟩:=cellsAt_ok (nr:=0) hc
   obtain ⟨_,hcl⟩:=h.mem r k hk
   obtain ⟨d1,d2⟩:=sum32_D (by omega) g2
   refine ⟨fun j hj7=>?_,d1⟩
   have hjl:j<l.length:=by omega
   obtain ⟨v,c1,c2⟩:=hcl (o+j) _ (by rw [← hj j hj7,List.getElem?_eq_getElem hjl])
   rw [g3 j _ (List.getElem?_eq_getElem hjl)] at c2
   have c2':v=.int .i64 (ws.getD j 0:Int):=c2
   rw [c2',at_,← Nat.add_assoc] at c1
   show w.cell? _=some (.int .i64 (D (sum32 ws) j:Int))
   rw [d2 j hj7]
   exact c1
  ·cases hx
 ·cases hx
end
def x64:X:=fun F st args=>match args with
 | [.one x,.one y]=>match x.asSl,y.asSl with
  | some (r1,o1,7),some (r2,o2,7)=>match elS st.mem r1 o1,elS st.mem r2 o2 with
   | some l,some m=>some (.one (.bl st.nx),{ st with nx:=st.nx+1,exs:=.op 4 [l,m] :: st.exs })
   | _,_=>none
  | _,_=>none
 | _=>none
def x57:X:=fun F st args=>match args with
 | [.one x,.one y]=>match x.asSl,y.asSl with
  | some (r1,o1,7),some (r2,o2,7)=>match elS st.mem r1 o1,elS st.mem r2 o2 with
   | some l,some m=>some (.one (.bl st.nx),{ st with nx:=st.nx+1,exs:=.feq l m :: st.exs })
   | _,_=>none
  | _,_=>none
 | _=>none
theorem x64_ok:XOk Try.prog 64 x64:=by
 refine ⟨fun {F st st' args av} h=>?_,fun {s β F w0 st st' a w args vs av} hr h hargs hH=>?_⟩
 ·unfold x64 at h
  split at h
  ·split at h
   ·split at h
    ·cases h; exact ⟨⟨[_],rfl,rfl⟩,Nat.le_refl _⟩
    ·cases h
   ·cases h
  ·cases h
 ·unfold x64 at h
  split at h
  ·rename_i x y
   split at h
   ·rename_i r1 o1 r2 o2 hx hy
    split at h
    ·rename_i l m hl hm
     cases h
     obtain ⟨u,v,rfl,hu,hv⟩:=avs2 hargs
     obtain ⟨⟨c1,hv1,hc1⟩,_⟩:=asSl_rep hx hu
     obtain ⟨⟨c2,hv2,hc2⟩,_⟩:=asSl_rep hy hv
     have hm':=meets64 w (β r1).1 ((β r1).2+o1) c1 (β r2).1 ((β r2).2+o2) c2 _ _ hc1 hc2 (elS_rep hr hl) (elS_rep hr hm)
     have he:s st.nx=if l.val s<m.val s then 1 else 0:=hH.1
     obtain ⟨e1,e2⟩:=bool_of he
     intro o' a' next Q hn
     rw [hv1,hv2]
     exact hm' o' a' next Q fun v' w' ⟨hv',hb⟩=>hn _ _ ⟨β,Agree.refl _ _,⟨by rw [hv',e1],e2⟩,(hr.nums _ _).kept hb⟩
    ·cases h
   ·cases h
  ·cases h
theorem x57_ok:XOk Try.prog 57 x57:=by
 refine ⟨fun {F st st' args av} h=>?_,fun {s β F w0 st st' a w args vs av} hr h hargs hH=>?_⟩
 ·unfold x57 at h
  split at h
  ·split at h
   ·split at h
    ·cases h; exact ⟨⟨[_],rfl,rfl⟩,Nat.le_refl _⟩
    ·cases h
   ·cases h
  ·cases h
 ·unfold x57 at h
  split at h
  ·rename_i x y
   split at h
   ·rename_i r1 o1 r2 o2 hx hy
    split at h
    ·rename_i l m hl hm
     cases h
     obtain ⟨u,v,rfl,hu,hv⟩:=avs2 hargs
     obtain ⟨⟨c1,hv1,hc1⟩,_⟩:=asSl_rep hx hu
     obtain ⟨⟨c2,hv2,hc2⟩,_⟩:=asSl_rep hy hv
     have hm':=meets57 w (β r1).1 ((β r1).2+o1) c1 (β r2).1 ((β r2).2+o2) c2 _ _ hc1 hc2 (elS_rep hr hl) (elS_rep hr hm)
     have he:s st.nx=if l.val s=m.val s then 1 else 0:=hH.1
     obtain ⟨e1,e2⟩:=bool_of he
     intro o' a' next Q hn
     rw [hv1,hv2]
     exact hm' o' a' next Q fun v' w' ⟨hv',hb⟩=>hn _ _ ⟨β,Agree.refl _ _,⟨by rw [hv',e1],e2⟩,(hr.nums _ _).kept hb⟩
    ·cases h
   ·cases h
  ·cases h
end P224
/- The reference's remainder modulo the prime: what the executor lists of it, in each of its ways. -/
namespace P224
open Go Go.RowKit Go.Proofs
set_option maxRecDepth 100000
set_option linter.unusedVariables false
def turnW (n V:Nat):List Wd:=[.v (n+3),.w V 1,.w V 2,.v (n+1),.w V 4,.w V 5,.w V 6]
def rnd (n V c:Nat):List Ex:=[.op 8 (turnW n V),.op 7 (turnW n V),.op 1 (turnW n V),.add 64 (.w V 0) (.v (n+2)),.mul 64 (.v c) (.c 18446744073709551615),.add 64 (.w V 3) (.v n),.mul 64 (.v c) (.c 1)]
def tail0 (m:Nat) (W:List Wd):List Ex:=[.fne (.v (m+2)) (.c 0),.op 8 W,.op 7 W,.op 1 W]
def tailR (m:Nat) (W:List Wd):Nat→List Ex
 | 0=>tail0 m W
 | 1=>.fne (.v (m+10)) (.c 0) :: (rnd (m+4) (m+1) (m+2) ++ tail0 m W)
 | _=>.fne (.v (m+18)) (.c 0) :: (rnd (m+12) (m+9) (m+10) ++ .fne (.v (m+10)) (.c 0) :: (rnd (m+4) (m+1) (m+2) ++ tail0 m W))
def tailV (m r:Nat):Nat:=m+1+8*r
def tailE (m r:Nat):Nat:=m+4+8*r
def subW (e:Nat):List Wd:=[.v (e+2),.v (e+3),.v (e+4),.v (e+5),.v (e+6),.v (e+7),.v (e+8)]
def subEx (e V:Nat):List Ex:=[.op 8 (subW e),.op 7 (subW e),.op 1 (subW e),.sub 64 (.w V 6) (.c 4294967295),.sub 64 (.w V 5) (.c 4294967295),.sub 64 (.w V 4) (.c 4294967295),.sub 64 (.w V 3) (.c 4294967295),.sub 64 (.w V 2) (.c 0),.sub 64 (.w V 1) (.c 0),.sub 64 (.w V 0) (.c 1)]
def endEx (e V:Nat):List Ex:=[.feq (.v e) (.c 0),.op 4 [.v V,.c pq]]
def wayEx (m:Nat) (W:List Wd) (r:Nat) (b:Bool):List Ex:=(bif b then subEx (tailE m r) (tailV m r) else []) ++ (endEx (tailE m r) (tailV m r) ++ tailR m W r)
def wayNx (m r:Nat) (b:Bool):Nat:=tailE m r+(bif b then 12 else 2)
def wayV (m r:Nat) (b:Bool):Nat:=bif b then tailE m r+10 else tailV m r
def wayDec (m r:Nat) (b:Bool):List (Nat × Bool) :=
 (m,true) :: (m+3,r != 0) :: ((bif r == 0 then [] else [(m+8,true),(m+11,r != 1)]) ++ ((bif decide (2≤r) then [(m+16,true),(m+19,false)] else []) ++
  (tailE m r+1,b) :: (bif b then [(tailE m r+9,true)] else [])))
theorem pq_num:(pq:Int)=26959946667150639794667015087019630673557916260026308143510066298881:=rfl
theorem car_law {L:List Nat} {S:Int} (hS:sumW L=S):opVal 7 L=(S % 2 ^ 224).toNat∧(-2 ^ 240≤S→S≤2 ^ 240→sgn (opVal 8 L)=S / 2 ^ 224∧opVal 8 L<2 ^ 64):=by
 refine ⟨by rw [← hS]; rfl,fun h1 h2=>?_⟩
 have e:opVal 8 L=((S / 2 ^ 224) % 2 ^ 64).toNat:=by rw [← hS]; rfl
 rw [e]
 generalize hq:S / 2 ^ 224=q
 have b1:-65536≤q∧q≤65536:=by omega
 refine ⟨?_,by omega⟩
 unfold sgn
 split <;> omega
theorem sum_D {V:Nat} (hV:V<2 ^ 224):(D V 0:Int)+4294967296*(D V 1+4294967296*(D V 2+4294967296*(D V 3+4294967296*(D V 4+4294967296*(D V 5+4294967296*D V 6)))))=V:=by
 have p:∀ k,V / 2 ^ (32*k)=D V k+4294967296*(V / 2 ^ (32*(k+1))):=fun k=>by
  rw [div32]
  unfold D
  have:=Nat.div_add_mod (V / 2 ^ (32*k)) (2 ^ 32)
  omega
 have p0:=p 0
 have p1:=p 1
 have p2:=p 2
 have p3:=p 3
 have p4:=p 4
 have p5:=p 5
 have p6:=p 6
 have z:V / 2 ^ (32*(6+1))=0:=Nat.div_eq_of_lt hV
 rw [z] at p6
 have e0:V / 2 ^ (32*0)=V:=by simp
 rw [e0,p1,p2,p3,p4,p5,p6] at p0
 generalize D V 0=d0 at *
 generalize D V 1=d1 at *
 generalize D V 2=d2 at *
 generalize D V 3=d3 at *
 generalize D V 4=d4 at *
 generalize D V 5=d5 at *
 generalize D V 6=d6 at *
 clear p p1 p2 p3 p4 p5 p6 z e0
 omega
theorem small_of {u:Nat} (hu:u<2 ^ 64) (h:smallI (sgn u)) (h2:sgn u<72057594037927936):(decide (u<2 ^ 56) || decide (2 ^ 64 - 2 ^ 56≤u))=true:=by
 rw [Bool.or_eq_true,decide_eq_true_eq,decide_eq_true_eq]
 unfold smallI sgn at h
 unfold sgn at h2
 split at h <;> omega
theorem sgn_D (V k:Nat):sgn (D V k)=D V k:=by
 have:=D_lt V k
 exact sgn_nat (by omega)
theorem rnd_law {V c C n0 n1 n2 n3:Nat} {q:Int} (hV:V<2 ^ 224) (hc:c<2 ^ 64) (hq:sgn c=q) (hb:-65536≤q∧q≤65536)
  (h0:n0=c*1 % 2 ^ 64) (h1:n1=(D V 3+n0) % 2 ^ 64) (h2:n2=c*18446744073709551615 % 2 ^ 64) (h3:n3=(D V 0+n2) % 2 ^ 64) :
  sumW [n3,D V 1,D V 2,n1,D V 4,D V 5,D V 6]=V+q*(2 ^ 96 - 1)∧smallW [n3,D V 1,D V 2,n1,D V 4,D V 5,D V 6]=true:=by
 have l0:=D_lt V 0
 have l1:=D_lt V 1
 have l2:=D_lt V 2
 have l3:=D_lt V 3
 have l4:=D_lt V 4
 have l5:=D_lt V 5
 have l6:=D_lt V 6
 have e0:n0=c:=by rw [h0,Nat.mul_one,Nat.mod_eq_of_lt hc]
 have s2:sgn n2=-q∧n2<2 ^ 64:=by
  have m1:=sgn_mod c
  have m2:=sgn_mod n2
  have hn:n2<2 ^ 64:=by rw [h2]; exact Nat.mod_lt _ (by decide)
  have r2:=sgn_range hn
  rw [hq] at m1
  refine ⟨?_,hn⟩
  omega
 have s0:sgn n0=q:=by rw [e0,hq]
 have a1:=sgn_add (x:=D V 3) (y:=n0) (by omega) (by rw [e0]; exact hc) (by rw [sgn_D,s0]; omega) (by rw [sgn_D,s0]; omega)
 have a3:=sgn_add (x:=D V 0) (y:=n2) (by omega) s2.2 (by rw [sgn_D,s2.1]; omega) (by rw [sgn_D,s2.1]; omega)
 rw [← h1,sgn_D,s0] at a1
 rw [← h3,sgn_D,s2.1] at a3
 have t1:n1<2 ^ 64:=by rw [h1]; exact Nat.mod_lt _ (by decide)
 have t3:n3<2 ^ 64:=by rw [h3]; exact Nat.mod_lt _ (by decide)
 refine ⟨?_,?_⟩
 ·have hs:=sum_D hV
  show sgn n3+4294967296*(sgn (D V 1)+4294967296*(sgn (D V 2)+4294967296*(sgn n1+4294967296*(sgn (D V 4)+4294967296*(sgn (D V 5)+4294967296*(sgn (D V 6)+4294967296*0))))))=_
  rw [a1,a3,sgn_D,sgn_D,sgn_D,sgn_D,sgn_D]
  clear h0 h1 h2 h3 a1 a3
  omega
 ·show ((decide (n3<2 ^ 56) || decide (2 ^ 64 - 2 ^ 56≤n3)) && ((decide (D V 1<2 ^ 56) || _) && ((decide (D V 2<2 ^ 56) || _) && ((decide (n1<2 ^ 56) || decide (2 ^ 64 - 2 ^ 56≤n1)) && ((decide (D V 4<2 ^ 56) || _) && ((decide (D V 5<2 ^ 56) || _) && ((decide (D V 6<2 ^ 56) || _) && true)))))))=true
  rw [small_of t3 (by rw [a3]; omega) (by rw [a3]; omega),small_of t1 (by rw [a1]; omega) (by rw [a1]; omega),decide_eq_true (show D V 1<2 ^ 56 by omega),decide_eq_true (show D V 2<2 ^ 56 by omega),decide_eq_true (show D V 4<2 ^ 56 by omega),decide_eq_true (show D V 5<2 ^ 56 by omega),decide_eq_true (show D V 6<2 ^ 56 by omega)]
  rfl
theorem sgn_sub {x y:Nat} (hx:x<2 ^ 32) (hy:y<2 ^ 32):sgn ((x+(2 ^ 64 - y)) % 2 ^ 64)=(x:Int) - y∧(x+(2 ^ 64 - y)) % 2 ^ 64<2 ^ 64:=by
 refine ⟨?_,Nat.mod_lt _ (by decide)⟩
 unfold sgn
 split <;> omega
theorem sub_law {V n0 n1 n2 n3 n4 n5 n6:Nat} (hV:V<2 ^ 224) (h0:n0=(D V 0+(2 ^ 64 - 1)) % 2 ^ 64) (h1:n1=(D V 1+(2 ^ 64 - 0)) % 2 ^ 64) (h2:n2=(D V 2+(2 ^ 64 - 0)) % 2 ^ 64)
  (h3:n3=(D V 3+(2 ^ 64 - 4294967295)) % 2 ^ 64) (h4:n4=(D V 4+(2 ^ 64 - 4294967295)) % 2 ^ 64) (h5:n5=(D V 5+(2 ^ 64 - 4294967295)) % 2 ^ 64) (h6:n6=(D V 6+(2 ^ 64 - 4294967295)) % 2 ^ 64) :
  sumW [n0,n1,n2,n3,n4,n5,n6]=(V:Int) - pq∧smallW [n0,n1,n2,n3,n4,n5,n6]=true:=by
 obtain ⟨a0,b0⟩:=sgn_sub (D_lt V 0) (show 1<2 ^ 32 by decide)
 obtain ⟨a1,b1⟩:=sgn_sub (D_lt V 1) (show 0<2 ^ 32 by decide)
 obtain ⟨a2,b2⟩:=sgn_sub (D_lt V 2) (show 0<2 ^ 32 by decide)
 obtain ⟨a3,b3⟩:=sgn_sub (D_lt V 3) (show 4294967295<2 ^ 32 by decide)
 obtain ⟨a4,b4⟩:=sgn_sub (D_lt V 4) (show 4294967295<2 ^ 32 by decide)
 obtain ⟨a5,b5⟩:=sgn_sub (D_lt V 5) (show 4294967295<2 ^ 32 by decide)
 obtain ⟨a6,b6⟩:=sgn_sub (D_lt V 6) (show 4294967295<2 ^ 32 by decide)
 rw [← h0] at a0 b0
 rw [← h1] at a1 b1
 rw [← h2] at a2 b2
 rw [← h3] at a3 b3
 rw [← h4] at a4 b4
 rw [← h5] at a5 b5
 rw [← h6] at a6 b6
 have l0:=D_lt V 0
 have l1:=D_lt V 1
 have l2:=D_lt V 2
 have l3:=D_lt V 3
 have l4:=D_lt V 4
 have l5:=D_lt V 5
 have l6:=D_lt V 6
 refine ⟨?_,?_⟩
 ·have hs:=sum_D hV
  show sgn n0+4294967296*(sgn n1+4294967296*(sgn n2+4294967296*(sgn n3+4294967296*(sgn n4+4294967296*(sgn n5+4294967296*(sgn n6+4294967296*0))))))=_
  rw [a0,a1,a2,a3,a4,a5,a6,pq_num]
  clear h0 h1 h2 h3 h4 h5 h6 a0 a1 a2 a3 a4 a5 a6 b0 b1 b2 b3 b4 b5 b6
  omega
 ·show ((decide (n0<2 ^ 56) || decide (2 ^ 64 - 2 ^ 56≤n0)) && ((decide (n1<2 ^ 56) || decide (2 ^ 64 - 2 ^ 56≤n1)) && ((decide (n2<2 ^ 56) || decide (2 ^ 64 - 2 ^ 56≤n2)) && ((decide (n3<2 ^ 56) || decide (2 ^ 64 - 2 ^ 56≤n3)) && ((decide (n4<2 ^ 56) || decide (2 ^ 64 - 2 ^ 56≤n4)) && ((decide (n5<2 ^ 56) || decide (2 ^ 64 - 2 ^ 56≤n5)) && ((decide (n6<2 ^ 56) || decide (2 ^ 64 - 2 ^ 56≤n6)) && true)))))))=true
  rw [small_of b0 (by rw [a0]; omega) (by rw [a0]; omega),small_of b1 (by rw [a1]; omega) (by rw [a1]; omega),small_of b2 (by rw [a2]; omega) (by rw [a2]; omega),small_of b3 (by rw [a3]; omega) (by rw [a3]; omega),small_of b4 (by rw [a4]; omega) (by rw [a4]; omega),small_of b5 (by rw [a5]; omega) (by rw [a5]; omega),small_of b6 (by rw [a6]; omega) (by rw [a6]; omega)]
  rfl
end P224
/- The reference's remainder modulo the prime: in one of its ways it is the remainder. -/
namespace P224
open Go Go.RowKit Go.Proofs
set_option maxRecDepth 100000
set_option linter.unusedVariables false
def nxt (S:Int):Int:=S % 2 ^ 224+S / 2 ^ 224*(2 ^ 96 - 1)
structure Car (s:Nums) (m:Nat) (S:Int):Prop where
 ok:s m=1
 v:(s (m+1):Int)=S % 2 ^ 224
 c:sgn (s (m+2))=S / 2 ^ 224
 lt:s (m+2)<2 ^ 64
theorem Car.vlt {s:Nums} {m:Nat} {S:Int} (h:Car s m S):s (m+1)<2 ^ 224:=by
 have:=h.v
 omega
theorem car_of {s:Nums} {m:Nat} {L:List Nat} {S:Int} (hS:sumW L=S) (hsm:smallW L=true) (h1:-2 ^ 240≤S) (h2:S≤2 ^ 240) (e0:s m=if smallW L=true then 1 else 0) (e1:s (m+1)=opVal 7 L) (e2:s (m+2)=opVal 8 L):Car s m S:=by
 obtain ⟨a1,a2⟩:=car_law hS
 obtain ⟨a3,a4⟩:=a2 h1 h2
 refine ⟨by rw [e0,if_pos hsm],?_,by rw [e2]; exact a3,by rw [e2]; exact a4⟩
 rw [e1,a1]
 omega
theorem rnd_holds {s:Nums} {n V c:Nat} {l:List Ex} (h:Holds s (n+7) (rnd n V c ++ l)) :
  s (n+6)=opVal 8 [s (n+3),D (s V) 1,D (s V) 2,s (n+1),D (s V) 4,D (s V) 5,D (s V) 6]∧s (n+5)=opVal 7 [s (n+3),D (s V) 1,D (s V) 2,s (n+1),D (s V) 4,D (s V) 5,D (s V) 6] ∧
  s (n+4)=(if smallW [s (n+3),D (s V) 1,D (s V) 2,s (n+1),D (s V) 4,D (s V) 5,D (s V) 6]=true then 1 else 0)∧s (n+3)=(D (s V) 0+s (n+2)) % 2 ^ 64∧s (n+2)=s c*18446744073709551615 % 2 ^ 64 ∧
  s (n+1)=(D (s V) 3+s n) % 2 ^ 64∧s n=s c*1 % 2 ^ 64∧Holds s n l:=h
theorem tail0_holds {s:Nums} {m:Nat} {W:List Wd} {l:List Ex} (h:Holds s (m+4) (tail0 m W ++ l)) :
  s (m+3)=(if s (m+2)=0 then 0 else 1)∧s (m+2)=opVal 8 (vals s W)∧s (m+1)=opVal 7 (vals s W)∧s m=(if smallW (vals s W)=true then 1 else 0)∧Holds s m l:=h
theorem sub_holds {s:Nums} {e V:Nat} {l:List Ex} (h:Holds s (e+12) (subEx e V ++ l)) :
  s (e+11)=opVal 8 [s (e+2),s (e+3),s (e+4),s (e+5),s (e+6),s (e+7),s (e+8)]∧s (e+10)=opVal 7 [s (e+2),s (e+3),s (e+4),s (e+5),s (e+6),s (e+7),s (e+8)] ∧
  s (e+9)=(if smallW [s (e+2),s (e+3),s (e+4),s (e+5),s (e+6),s (e+7),s (e+8)]=true then 1 else 0) ∧
  s (e+8)=(D (s V) 6+(2 ^ 64 - 4294967295)) % 2 ^ 64∧s (e+7)=(D (s V) 5+(2 ^ 64 - 4294967295)) % 2 ^ 64∧s (e+6)=(D (s V) 4+(2 ^ 64 - 4294967295)) % 2 ^ 64∧s (e+5)=(D (s V) 3+(2 ^ 64 - 4294967295)) % 2 ^ 64 ∧
  s (e+4)=(D (s V) 2+(2 ^ 64 - 0)) % 2 ^ 64∧s (e+3)=(D (s V) 1+(2 ^ 64 - 0)) % 2 ^ 64∧s (e+2)=(D (s V) 0+(2 ^ 64 - 1)) % 2 ^ 64∧Holds s (e+2) l:=h
theorem end_holds {s:Nums} {e V:Nat} {l:List Ex} (h:Holds s (e+2) (endEx e V ++ l)) :
  s (e+1)=(if s e=0 then 1 else 0)∧s e=(if s V<pq then 1 else 0)∧Holds s e l:=h
theorem Car.turn {s:Nums} {m n:Nat} {S:Int} {l:List Ex} (h:Car s m S) (h1:-2 ^ 235≤S) (h2:S≤2 ^ 235) (hr:Holds s (n+7) (rnd n (m+1) (m+2) ++ l)):Car s (n+4) (nxt S):=by
 obtain ⟨e6,e5,e4,e3,e2,e1,e0,_⟩:=rnd_holds hr
 obtain ⟨a1,a2⟩:=rnd_law (V:=s (m+1)) (c:=s (m+2)) (C:=0) h.vlt h.lt h.c (by omega) e0 e1 e2 e3
 refine car_of (L:=[s (n+3),D (s (m+1)) 1,D (s (m+1)) 2,s (n+1),D (s (m+1)) 4,D (s (m+1)) 5,D (s (m+1)) 6]) ?_ a2 ?_ ?_ e4 e5 e6
 ·rw [a1,h.v]
  rfl
 ·unfold nxt; omega
 ·unfold nxt; omega
theorem Car.zero {s:Nums} {m:Nat} {S:Int} (h:Car s m S):s (m+2)=0↔S / 2 ^ 224=0:=by
 have h1:=h.c
 have h2:=h.lt
 constructor
 ·intro e
  rw [e] at h1
  rw [← h1]; rfl
 ·intro e
  rw [e] at h1
  have:=sgn_mod (s (m+2))
  rw [h1] at this
  omega
theorem end_law {s:Nums} {e V:Nat} {l:List Ex} {S:Int} {b:Bool} (hV:(s V:Int)=S) (hlt:s V<2 ^ 224) (hb:b=decide (pq≤s V)) (hh:Holds s (e+bif b then 12 else 2) ((bif b then subEx e V else []) ++ (endEx e V ++ l))) :
  s (e+1)=b.toNat∧(b=true→s (e+9)=1)∧(s (bif b then e+10 else V):Int)=S % pq∧s (bif b then e+10 else V)<pq:=by
 have p2:(pq:Int)*2 > 2 ^ 224:=by rw [pq_num]; decide
 cases b with
 | false =>
  simp only [cond_false] at hh ⊢
  obtain ⟨g1,g2,_⟩:=end_holds hh
  have hn:¬ pq≤s V:=of_decide_eq_false hb.symm
  rw [if_pos (by omega)] at g2
  rw [g2] at g1
  refine ⟨g1,(fun h=>by cases h),?_,by omega⟩
  rw [hV,Int.emod_eq_of_lt (by omega) (by omega)]
 | true =>
  simp only [cond_true] at hh ⊢
  obtain ⟨a11,a10,a9,a8,a7,a6,a5,a4,a3,a2,hh⟩:=sub_holds hh
  obtain ⟨g1,g2,_⟩:=end_holds hh
  have hn:pq≤s V:=of_decide_eq_true hb.symm
  rw [if_neg (by omega)] at g2
  rw [g2] at g1
  obtain ⟨b1,b2⟩:=sub_law hlt a2 a3 a4 a5 a6 a7 a8
  rw [b2,if_pos rfl] at a9
  have b3:=(car_law b1).1
  rw [← a10] at b3
  have hp:(0:Int)<pq:=by rw [pq_num]; decide
  have:(s (e+10):Int)=S - pq:=by
   rw [b3,← hV]
   have:((s V:Int) - pq) % 2 ^ 224=s V - pq:=Int.emod_eq_of_lt (by omega) (by omega)
   rw [this]
   omega
  refine ⟨g1,fun _=>a9,?_,by omega⟩
  rw [this,← Int.sub_emod_right,Int.emod_eq_of_lt (by omega) (by omega)]
theorem nxt_mod (S:Int):nxt S % pq=S % pq:=by
 have:nxt S=S - pq*(S / 2 ^ 224):=by
  unfold nxt
  rw [pq_num]
  omega
 rw [this,Int.sub_mul_emod_self_left]
def turnsOf (S:Int):Nat:=if S / 2 ^ 224=0 then 0 else if nxt S / 2 ^ 224=0 then 1 else 2
def restOf (S:Int):Int:=if S / 2 ^ 224=0 then S else if nxt S / 2 ^ 224=0 then nxt S else nxt (nxt S)
def takenOf (S:Int):Bool:=decide ((pq:Int)≤restOf S)
theorem turns_lt (S:Int):turnsOf S<3:=by
 unfold turnsOf
 split
 ·omega
 ·split <;> omega
theorem way_law {S:Int} (h1:-2 ^ 230≤S) (h2:S≤2 ^ 230) {s:Nums} {m:Nat} {W:List Wd} {l:List Ex} (hW:sumW (vals s W)=S) (hsm:smallW (vals s W)=true)
  (hh:Holds s (wayNx m (turnsOf S) (takenOf S)) (wayEx m W (turnsOf S) (takenOf S) ++ l)) :
  (∀ p ∈ wayDec m (turnsOf S) (takenOf S),s p.1=p.2.toNat)∧(s (wayV m (turnsOf S) (takenOf S)):Int)=S % pq∧s (wayV m (turnsOf S) (takenOf S))<pq:=by
 by_cases c0:S / 2 ^ 224=0
 ·
  have ht:turnsOf S=0:=if_pos c0
  have hr:restOf S=S:=if_pos c0
  rw [ht] at hh ⊢
  have hh':Holds s ((m+4)+bif takenOf S then 12 else 2) ((bif takenOf S then subEx (m+4) (m+1) else []) ++ (endEx (m+4) (m+1) ++ (tail0 m W ++ l))):=by
   have:wayEx m W 0 (takenOf S) ++ l=(bif takenOf S then subEx (m+4) (m+1) else []) ++ (endEx (m+4) (m+1) ++ (tail0 m W ++ l)):=by
    unfold wayEx
    simp only [List.append_assoc]
    rfl
   rw [this] at hh
   exact hh
  have t0:Holds s (m+4) (tail0 m W ++ l):=by
   have:=hh'
   cases hb:takenOf S with
   | true=>rw [hb] at this; simp only [cond_true] at this; exact (end_holds (sub_holds this).2.2.2.2.2.2.2.2.2.2).2.2
   | false=>rw [hb] at this; simp only [cond_false] at this; exact (end_holds this).2.2
  obtain ⟨e3,e2,e1,e0,_⟩:=tail0_holds t0
  have C0:=car_of hW hsm (by omega) (by omega) e0 e1 e2
  have hV:(s (m+1):Int)=S:=by rw [C0.v]; omega
  have hb:takenOf S=decide (pq≤s (m+1)):=by
   unfold takenOf
   rw [hr,← hV]
   simp
  obtain ⟨g1,g2,g3,g4⟩:=end_law hV C0.vlt hb hh'
  have z:=C0.zero.2 c0
  rw [if_pos z] at e3
  refine ⟨fun p hp=>?_,?_,?_⟩
  ·unfold wayDec at hp
   simp only [beq_self_eq_true,cond_true,List.nil_append,List.mem_cons,bne_self_eq_false] at hp
   rcases hp with rfl | rfl | hp
   ·exact C0.ok
   ·exact e3
   ·rw [show decide (2≤0)=false from rfl] at hp
    simp only [cond_false,List.nil_append,List.mem_cons] at hp
    rcases hp with rfl | hp
    ·exact g1
    ·cases hb':takenOf S with
     | true =>
      rw [hb'] at hp
      simp only [cond_true,List.mem_cons,List.not_mem_nil,or_false] at hp
      subst hp
      exact g2 hb'
     | false=>rw [hb'] at hp; simp at hp
  ·exact g3
  ·exact g4
 ·by_cases c1:nxt S / 2 ^ 224=0
  ·
   have ht:turnsOf S=1:=by unfold turnsOf; rw [if_neg c0,if_pos c1]
   have hr:restOf S=nxt S:=by unfold restOf; rw [if_neg c0,if_pos c1]
   rw [ht] at hh ⊢
   have hh':Holds s ((m+12)+bif takenOf S then 12 else 2) ((bif takenOf S then subEx (m+12) (m+9) else []) ++ (endEx (m+12) (m+9) ++ (.fne (.v (m+10)) (.c 0) :: (rnd (m+4) (m+1) (m+2) ++ (tail0 m W ++ l))))):=by
    have:wayEx m W 1 (takenOf S) ++ l=(bif takenOf S then subEx (m+12) (m+9) else []) ++ (endEx (m+12) (m+9) ++ (.fne (.v (m+10)) (.c 0) :: (rnd (m+4) (m+1) (m+2) ++ (tail0 m W ++ l)))):=by
     unfold wayEx tailR
     simp only [List.append_assoc,List.cons_append]
     rfl
    rw [this] at hh
    exact hh
   have tt:Holds s (m+12) (.fne (.v (m+10)) (.c 0) :: (rnd (m+4) (m+1) (m+2) ++ (tail0 m W ++ l))):=by
    have:=hh'
    cases hb:takenOf S with
    | true=>rw [hb] at this; simp only [cond_true] at this; exact (end_holds (sub_holds this).2.2.2.2.2.2.2.2.2.2).2.2
    | false=>rw [hb] at this; simp only [cond_false] at this; exact (end_holds this).2.2
   have e11:s (m+11)=if s (m+10)=0 then 0 else 1:=tt.1
   have t1:Holds s ((m+4)+7) (rnd (m+4) (m+1) (m+2) ++ (tail0 m W ++ l)):=tt.2
   have t0:Holds s (m+4) (tail0 m W ++ l):=(rnd_holds t1).2.2.2.2.2.2.2
   obtain ⟨e3,e2,e1,e0,_⟩:=tail0_holds t0
   have C0:=car_of hW hsm (by omega) (by omega) e0 e1 e2
   have C1:=C0.turn (by omega) (by omega) t1
   have z0:s (m+2)≠0:=fun z=>c0 (C0.zero.1 z)
   rw [if_neg z0] at e3
   have z1:s (m+10)=0:=C1.zero.2 c1
   rw [if_pos z1] at e11
   have hV:(s (m+9):Int)=nxt S:=by have:=C1.v; rw [show m+4+4+1=m+9 by omega] at this; omega
   have hlt:s (m+9)<2 ^ 224:=C1.vlt
   have hb:takenOf S=decide (pq≤s (m+9)):=by
    unfold takenOf
    rw [hr,← hV]
    simp
   obtain ⟨g1,g2,g3,g4⟩:=end_law hV hlt hb hh'
   rw [nxt_mod] at g3
   refine ⟨fun p hp=>?_,?_,?_⟩
   ·have hp':p ∈ [(m,true),(m+3,true),(m+8,true),(m+11,false)] ++ ((m+13,takenOf S) :: (bif takenOf S then [(m+21,true)] else [])):=hp
    simp only [List.cons_append,List.nil_append,List.mem_cons] at hp'
    rcases hp' with rfl | rfl | rfl | rfl | rfl | hp'
    ·exact C0.ok
    ·exact e3
    ·exact C1.ok
    ·exact e11
    ·exact g1
    ·cases hb':takenOf S with
     | true =>
      rw [hb'] at hp'
      simp only [cond_true,List.mem_cons,List.not_mem_nil,or_false] at hp'
      subst hp'
      exact g2 hb'
     | false=>rw [hb'] at hp'; simp at hp'
   ·exact g3
   ·exact g4
  ·
   have ht:turnsOf S=2:=by unfold turnsOf; rw [if_neg c0,if_neg c1]
   have hr:restOf S=nxt (nxt S):=by unfold restOf; rw [if_neg c0,if_neg c1]
   rw [ht] at hh ⊢
   have hh':Holds s ((m+20)+bif takenOf S then 12 else 2) ((bif takenOf S then subEx (m+20) (m+17) else []) ++ (endEx (m+20) (m+17) ++ (.fne (.v (m+18)) (.c 0) :: (rnd (m+12) (m+9) (m+10) ++ (.fne (.v (m+10)) (.c 0) :: (rnd (m+4) (m+1) (m+2) ++ (tail0 m W ++ l))))))):=by
    have:wayEx m W 2 (takenOf S) ++ l=(bif takenOf S then subEx (m+20) (m+17) else []) ++ (endEx (m+20) (m+17) ++ (.fne (.v (m+18)) (.c 0) :: (rnd (m+12) (m+9) (m+10) ++ (.fne (.v (m+10)) (.c 0) :: (rnd (m+4) (m+1) (m+2) ++ (tail0 m W ++ l)))))):=by
     unfold wayEx tailR
     simp only [List.append_assoc,List.cons_append]
     rfl
    rw [this] at hh
    exact hh
   have tt:Holds s (m+20) (.fne (.v (m+18)) (.c 0) :: (rnd (m+12) (m+9) (m+10) ++ (.fne (.v (m+10)) (.c 0) :: (rnd (m+4) (m+1) (m+2) ++ (tail0 m W ++ l))))):=by
    have:=hh'
    cases hb:takenOf S with
    | true=>rw [hb] at this; simp only [cond_true] at this; exact (end_holds (sub_holds this).2.2.2.2.2.2.2.2.2.2).2.2
    | false=>rw [hb] at this; simp only [cond_false] at this; exact (end_holds this).2.2
   have e19:s (m+19)=if s (m+18)=0 then 0 else 1:=tt.1
   have t2:Holds s ((m+12)+7) (rnd (m+12) (m+9) (m+10) ++ (.fne (.v (m+10)) (.c 0) :: (rnd (m+4) (m+1) (m+2) ++ (tail0 m W ++ l)))):=tt.2
   have tt:=(rnd_holds t2).2.2.2.2.2.2.2
   have e11:s (m+11)=if s (m+10)=0 then 0 else 1:=tt.1
   have t1:Holds s ((m+4)+7) (rnd (m+4) (m+1) (m+2) ++ (tail0 m W ++ l)):=tt.2
   have t0:Holds s (m+4) (tail0 m W ++ l):=(rnd_holds t1).2.2.2.2.2.2.2
   obtain ⟨e3,e2,e1,e0,_⟩:=tail0_holds t0
   have C0:=car_of hW hsm (by omega) (by omega) e0 e1 e2
   have C1:=C0.turn (by omega) (by omega) t1
   have z0:s (m+2)≠0:=fun z=>c0 (C0.zero.1 z)
   rw [if_neg z0] at e3
   have z1:s (m+10)≠0:=fun z=>c1 (C1.zero.1 z)
   rw [if_neg z1] at e11
   have C2:Car s (m+12+4) (nxt (nxt S)):=Car.turn (m:=m+8) C1 (by unfold nxt; omega) (by unfold nxt; omega) t2
   have c2:nxt (nxt S) / 2 ^ 224=0:=by
    have q1:nxt S / 2 ^ 224=1∨nxt S / 2 ^ 224=-1:=by unfold nxt at c1 ⊢; omega
    have b1:-2 ^ 110≤nxt S∧nxt S<2 ^ 224+2 ^ 110:=by unfold nxt; omega
    generalize nxt S=X at q1 b1 ⊢
    unfold nxt
    rcases q1 with q1 | q1 <;> rw [q1] <;> omega
   have z2:s (m+18)=0:=C2.zero.2 c2
   rw [if_pos z2] at e19
   have hV:(s (m+17):Int)=nxt (nxt S):=by have:=C2.v; rw [show m+12+4+1=m+17 by omega] at this; omega
   have hlt:s (m+17)<2 ^ 224:=C2.vlt
   have hb:takenOf S=decide (pq≤s (m+17)):=by
    unfold takenOf
    rw [hr,← hV]
    simp
   obtain ⟨g1,g2,g3,g4⟩:=end_law hV hlt hb hh'
   rw [nxt_mod,nxt_mod] at g3
   refine ⟨fun p hp=>?_,?_,?_⟩
   ·have hp':p ∈ [(m,true),(m+3,true),(m+8,true),(m+11,true)] ++ ((m+16,true) :: (m+19,false) :: (m+21,takenOf S) :: (bif takenOf S then [(m+29,true)] else [])):=hp
    simp only [List.cons_append,List.nil_append,List.mem_cons] at hp'
    rcases hp' with rfl | rfl | rfl | rfl | rfl | rfl | rfl | hp'
    ·exact C0.ok
    ·exact e3
    ·exact C1.ok
    ·exact e11
    ·exact C2.ok
    ·exact e19
    ·exact g1
    ·cases hb':takenOf S with
     | true =>
      rw [hb'] at hp'
      simp only [cond_true,List.mem_cons,List.not_mem_nil,or_false] at hp'
      subst hp'
      exact g2 hb'
     | false=>rw [hb'] at hp'; simp at hp'
   ·exact g3
   ·exact g4
end P224
/- The reference's sum and difference of elements: a call of a function that ends with the remainder, by its ways. -/
namespace P224
open Go Go.RowKit Go.Proofs
set_option maxRecDepth 100000
set_option linter.unusedVariables false
def optRowSame:Option (List A0)→Option (List A0)→Bool
 | some l,some m=>sameAll l m
 | none,none=>true
 | _,_=>false
def rowsSame:List (Option (List A0))→List (Option (List A0))→Bool
 | [],[]=>true
 | x :: l,y :: m=>optRowSame x y && rowsSame l m
 | _,_=>false
theorem optRowSame_eq {x y:Option (List A0)} (h:optRowSame x y=true):x=y:=by
 cases x <;> cases y <;> simp [optRowSame] at h
 ·rfl
 ·rw [sameAll_eq h]
theorem rowsSame_eq:∀ {x y:List (Option (List A0))},rowsSame x y=true→x=y
 | [],[],_=>rfl
 | x :: l,y :: m,h=>by
  rw [rowsSame,Bool.and_eq_true] at h
  rw [optRowSame_eq h.1,rowsSame_eq h.2]
 | [],_ :: _,h | _ :: _,[],h=>by simp [rowsSame] at h
def briefRSame:Option BriefR→BriefR→Bool
 | some b,c=>b.o.same c.o && b.nx == c.nx && decide (b.exs=c.exs) && outSame b.out c.out && AV.sameL b.res c.res && rowsSame b.mem c.mem
 | none,_=>false
theorem briefRSame_eq {x:Option BriefR} {y:BriefR} (h:briefRSame x y=true):x=some y:=by
 unfold briefRSame at h
 split at h
 ·rename_i b
  simp only [Bool.and_eq_true,beq_iff_eq,decide_eq_true_eq] at h
  obtain ⟨⟨⟨⟨⟨h1,h2⟩,h3⟩,h4⟩,h5⟩,h6⟩:=h
  obtain ⟨a1,a2,a3,a4,a5,a6⟩:=b
  obtain ⟨b1,b2,b3,b4,b5,b6⟩:=y
  simp only at h1 h2 h3 h4 h5 h6
  rw [Out.same_eq h1,h2,h3,outSame_eq h4,AV.sameL_eq h5,rowsSame_eq h6]
 ·cases h
def curveV (bf of:Nat):Value:=.agg #[.int .i64 224,.int .i64 28,.int .i64 7,.slice (some ⟨bf,of,none⟩) 2 2]
def FoldsAt (w:World) (bf of:Nat):Prop:=w.cell? ⟨bf,of,none⟩=some (.int .i64 3)∧w.cell? ⟨bf,of+1,none⟩=some (.int .i64 1)∧w.cell? ⟨bf,of+2,none⟩=some (.int .i64 0)∧w.cell? ⟨bf,of+3,none⟩=some (.int .i64 (-1))
def curveAV (r:Nat):AV:=.agg [.lit (.int .i64 224),.lit (.int .i64 28),.lit (.int .i64 7),.slc r 0 2 2]
def foldCells:List A0:=[.lit (.int .i64 3),.lit (.int .i64 1),.lit (.int .i64 0),.lit (.int .i64 (-1))]
theorem curve_rep {s:Nums} {β:Places} {n r bf of:Nat} (hβ:β r=(bf,of)) (hn:r<n):(curveAV r).rep s β n (curveV bf of):=by
 refine ⟨[.int .i64 224,.int .i64 28,.int .i64 7,.slice (some ⟨bf,of,none⟩) 2 2],rfl,rfl,fun j a x ha hx=>?_⟩
 match j,ha,hx with
 | 0,ha,hx=>cases ha; cases hx; exact rfl
 | 1,ha,hx=>cases ha; cases hx; exact rfl
 | 2,ha,hx=>cases ha; cases hx; exact rfl
 | 3,ha,hx=>cases ha; cases hx; exact ⟨by rw [at_,hβ]; rfl,hn⟩
theorem fold_row {s:Nums} {β:Places} {n r bf of:Nat} {w:World} (hβ:β r=(bf,of)) (h:FoldsAt w bf of):RowOk s β n r w 0 foldCells:=by
 obtain ⟨h1,h2,h3,h4⟩:=h
 exact ⟨⟨_,by rw [at_,hβ]; exact h1,rfl⟩,⟨_,by rw [at_,hβ]; exact h2,rfl⟩,⟨_,by rw [at_,hβ]; exact h3,rfl⟩,⟨_,by rw [at_,hβ]; exact h4,rfl⟩,trivial⟩
theorem FoldsAt.lt {w:World} {bf of:Nat} (h:FoldsAt w bf of):bf<w.heap.size:=World.block_lt_of_cell? w _ h.1
noncomputable def xs84:List (Nat × X):=(82,x82) :: (64,x64) :: with1 (with1 [] [] 2000 101 Try.f101) [] 2000 65 Try.f65
noncomputable def xs71:List (Nat × X):=with1 xs84 [] 3000 84 Try.f84
theorem xs84_ok:XsOk xs84:=xcons_ok x82_ok (xcons_ok x64_ok (with1_ok noPrims_ok (with1_ok noPrims_ok xnil_ok Try.func101 (by kernel_rfl)) Try.func65 (by kernel_rfl)))
theorem xs71_ok:XsOk xs71:=with1_ok noPrims_ok xs84_ok Try.func84 (by kernel_rfl)
theorem tab71_ok:(tabX true [] xs71).Ok Try.prog:=tabX_ok noPrims_ok xs71_ok
def st71:St:=startSt [curveAV 0,.one (.sl 1 0 7),.one (.sl 2 0 7)] [(0,foldCells),(1,l32s 0),(2,l32s 1)] 2 3
def wayB (m:Nat) (W:List Wd) (head:List Ex) (R c:Nat) (rest:List A0) (r:Nat) (b:Bool):BriefR:=⟨.ret,wayNx m r b,wayEx m W r b ++ head,[],[.one (.slc R 0 7 c)],[some (l32s (wayV m r b) ++ rest)]⟩
noncomputable def wayOk (fn:Func) (nt m:Nat) (W:List Wd) (head:List Ex) (R c:Nat) (rest:List A0) (r:Nat) (b:Bool):Bool :=
 briefRSame (briefR (tabX true [] xs71) fn [R] (runF (tabX true [] xs71) (fixD nt 3 [] [] (wayDec m r b)) 3000 fn st71)) (wayB m W head R c rest r b) && (wayB m W head R c rest r b).fit 2
noncomputable def waysOk (fn:Func) (nt m:Nat) (W:List Wd) (head:List Ex) (R c:Nat) (rest:List A0):Bool :=
 (List.range 3).all fun r=>wayOk fn nt m W head R c rest r true && wayOk fn nt m W head R c rest r false
theorem findT_all {d:List (Nat × Bool)} {s:Nums} (h:∀ p ∈ d,s p.1=p.2.toNat) {nt n:Nat} {l:List Nat} {sp:List (Nat × Nat)}:Dec (fixD nt n l sp d) s:=by
 intro i b hb
 exact h (i,b) (findT_mem hb)
def NewEl (w:World) (c R:Nat) (v:Value) (w':World):Prop :=
 ∃ b,w.heap.size≤b∧b<w'.heap.size∧v=.slice (some ⟨b,0,none⟩) 7 c∧El w' b 0 R∧(∀ k,k<7→w'.frozen? ⟨b,k,none⟩=false)∧Below w.heap.size w w'
theorem meets_ways {g:FuncId} {fn:Func} {nt m R c:Nat} {W:List Wd} {head:List Ex} {rest:List A0} (hok:waysOk fn nt m W head R c rest=true) (hnt:fn.ntmps=nt) (h3:3≤nt) (hf:Try.prog.funcs[g]?=some fn)
  (hbody : fn.body.isNone = false) (hname : (fn.name == "runtime.NumGoroutine") = false) (hR : 3 ≤ R)
  (w:World) (bf of b1 o1 c1 b2 o2 c2 x y:Nat) (hc1:7≤c1) (hc2:7≤c2) (hfo:FoldsAt w bf of) (hx:El w b1 o1 x) (hy:El w b2 o2 y) {S:Int} (hS1:-2 ^ 230≤S) (hS2:S≤2 ^ 230)
  (law:∀ s:Nums,s 0=x→s 1=y→Holds s m head→sumW (vals s W)=S∧smallW (vals s W)=true) :
  Meets Try.prog g #[curveV bf of,.slice (some ⟨b1,o1,none⟩) 7 c1,.slice (some ⟨b2,o2,none⟩) 7 c2] w (NewEl w c (S % pq).toNat):=by
 refine meets_of_calls hf hbody hname ?_
 have h:=all_range hok (turns_lt S)
 have hw:wayOk fn nt m W head R c rest (turnsOf S) (takenOf S)=true:=by
  rw [Bool.and_eq_true] at h
  cases takenOf S with
  | true=>exact h.1
  | false=>exact h.2
 rw [wayOk,Bool.and_eq_true] at hw
 obtain ⟨hb,hfit⟩:=hw
 have hb:=briefRSame_eq hb
 simp only [BriefR.fit,Bool.and_eq_true,decide_eq_true_eq,beq_iff_eq] at hfit
 obtain ⟨⟨⟨g1,g2⟩,g3⟩,g4⟩:=hfit
 let β:Places:=fun r=>if r=0 then (bf,of) else if r=1 then (b1,o1) else (b2,o2)
 let s0:Nums:=fun i=>if i=0 then x else y
 have way:∀ s:Nums,(∀ i,i<2→s i=s0 i)→Holds s (wayNx m (turnsOf S) (takenOf S)) (wayEx m W (turnsOf S) (takenOf S) ++ head) →
   (∀ p ∈ wayDec m (turnsOf S) (takenOf S),s p.1=p.2.toNat)∧(s (wayV m (turnsOf S) (takenOf S)):Int)=S % pq∧s (wayV m (turnsOf S) (takenOf S))<pq:=by
  intro s hs hH
  have hhead:Holds s m head:=by
   have e:wayNx m (turnsOf S) (takenOf S)=m+(wayEx m W (turnsOf S) (takenOf S)).length:=by
    have ht:=turns_lt S
    have:turnsOf S=0∨turnsOf S=1∨turnsOf S=2:=by omega
    rcases this with e | e | e <;> rw [e] <;> cases takenOf S <;> rfl
   rw [e] at hH
   exact Holds.drop _ _ _ hH
  obtain ⟨l1,l2⟩:=law s (hs 0 (by decide)) (hs 1 (by decide)) hhead
  exact way_law hS1 hS2 l1 l2 hH
 refine calls_briefR (F:=fixD nt 3 [] [] (wayDec m (turnsOf S) (takenOf S))) tab71_ok hb hf hnt g1 g2 g3 g4 (show 3≤nt from h3) (show 3<4095 by decide) s0 β
  (vals:=[curveV bf of,.slice (some ⟨b1,o1,none⟩) 7 c1,.slice (some ⟨b2,o2,none⟩) 7 c2]) (fun s hs=>⟨curve_rep rfl (show 0<3 by decide),⟨c1,hc1,rfl,show 1<3 by decide⟩,⟨c2,hc2,rfl,show 2<3 by decide⟩,trivial⟩)
  ?_ ?_ ?_ (fun r q _ _ h=>by cases h) (fun s hs hH=>findT_all (way s hs hH).1) ?_
 ·intro s hs
  exact ⟨show 0<3 by decide,fold_row rfl hfo,show 1<3 by decide,l32_row rfl hx (hs 0 (by decide)),show 2<3 by decide,l32_row rfl hy (hs 1 (by decide)),trivial⟩
 ·intro r l hl hr
  cases hr
 ·intro r _
  show (if r=0 then (bf,of) else if r=1 then (b1,o1) else (b2,o2)).1<_
  split
  ·exact hfo.lt
  ·split
   ·exact hx.lt
   ·exact hy.lt
 ·intro s hs hH st' β' a' w' v hv hm hag hr hbe
  obtain ⟨_,w2,w3⟩:=way s hs hH
  have hl:lookup R st'.mem=some (l32s (wayV m (turnsOf S) (takenOf S)) ++ rest):=by
   have:[lookup R st'.mem]=[some (l32s (wayV m (turnsOf S) (takenOf S)) ++ rest)]:=hm
   simpa using this
  obtain ⟨hrn,hc⟩:=hr.mem R _ hl
  obtain ⟨f1,f2,f3⟩:=hr.fresh R hR hrn
  have hv':v=.slice (some (at_ β' R 0)) 7 c:=hv.1
  have hget:∀ k,k<7→(l32s (wayV m (turnsOf S) (takenOf S)) ++ rest)[k]?=some (.l32 (wayV m (turnsOf S) (takenOf S)) k):=fun k hk=>by
   rw [List.getElem?_append_left (by simp [l32s]; exact hk),l32s,List.getElem?_map,List.getElem?_range hk]
   rfl
  refine ⟨v,rfl,(β' R).1,f1,f2,?_,⟨fun k hk=>?_,?_⟩,fun k hk=>?_,hbe⟩
  ·rw [hv',at_,f3]
  ·obtain ⟨u,u1,u2⟩:=hc k _ (hget k hk)
   rw [u2.1,at_,f3] at u1
   rw [← w2,Int.toNat_natCast]
   exact u1
  ·rw [← w2,Int.toNat_natCast]
   exact Nat.lt_trans w3 pq_lt224
  ·have:=hr.frz R _ hl (.inl hR) k (by rw [List.length_append]; simp [l32s]; omega)
   rw [at_,f3,Nat.zero_add] at this
   exact this
def W7:List Wd:=[.v 2,.v 3,.v 4,.v 5,.v 6,.v 7,.v 8]
def head71:List Ex:=[.add 64 (.w 0 6) (.w 1 6),.add 64 (.w 0 5) (.w 1 5),.add 64 (.w 0 4) (.w 1 4),.add 64 (.w 0 3) (.w 1 3),.add 64 (.w 0 2) (.w 1 2),.add 64 (.w 0 1) (.w 1 1),.add 64 (.w 0 0) (.w 1 0)]
def head70:List Ex:=[.sub 64 (.w 0 6) (.w 1 6),.sub 64 (.w 0 5) (.w 1 5),.sub 64 (.w 0 4) (.w 1 4),.sub 64 (.w 0 3) (.w 1 3),.sub 64 (.w 0 2) (.w 1 2),.sub 64 (.w 0 1) (.w 1 1),.sub 64 (.w 0 0) (.w 1 0)]
theorem ways71:waysOk Try.f71 33 9 W7 head71 4 7 []=true:=by kernel_rfl
theorem ways70:waysOk Try.f70 33 9 W7 head70 4 7 []=true:=by kernel_rfl
theorem smallW7 {a b c d e f g:Nat} (h:a<2 ^ 64∧b<2 ^ 64∧c<2 ^ 64∧d<2 ^ 64∧e<2 ^ 64∧f<2 ^ 64∧g<2 ^ 64)
  (s:(-1099511627776≤sgn a∧sgn a≤1099511627776)∧(-1099511627776≤sgn b∧sgn b≤1099511627776)∧(-1099511627776≤sgn c∧sgn c≤1099511627776)∧(-1099511627776≤sgn d∧sgn d≤1099511627776) ∧
   (-1099511627776≤sgn e∧sgn e≤1099511627776)∧(-1099511627776≤sgn f∧sgn f≤1099511627776)∧(-1099511627776≤sgn g∧sgn g≤1099511627776)):smallW [a,b,c,d,e,f,g]=true:=by
 obtain ⟨h1,h2,h3,h4,h5,h6,h7⟩:=h
 obtain ⟨s1,s2,s3,s4,s5,s6,s7⟩:=s
 show ((decide (a<2 ^ 56) || decide (2 ^ 64 - 2 ^ 56≤a)) && ((decide (b<2 ^ 56) || decide (2 ^ 64 - 2 ^ 56≤b)) && ((decide (c<2 ^ 56) || decide (2 ^ 64 - 2 ^ 56≤c)) && ((decide (d<2 ^ 56) || decide (2 ^ 64 - 2 ^ 56≤d)) && ((decide (e<2 ^ 56) || decide (2 ^ 64 - 2 ^ 56≤e)) && ((decide (f<2 ^ 56) || decide (2 ^ 64 - 2 ^ 56≤f)) && ((decide (g<2 ^ 56) || decide (2 ^ 64 - 2 ^ 56≤g)) && true)))))))=true
 rw [small_of h1 (by unfold smallI; omega) (by omega),small_of h2 (by unfold smallI; omega) (by omega),small_of h3 (by unfold smallI; omega) (by omega),small_of h4 (by unfold smallI; omega) (by omega),small_of h5 (by unfold smallI; omega) (by omega),small_of h6 (by unfold smallI; omega) (by omega),small_of h7 (by unfold smallI; omega) (by omega)]
 rfl
theorem sgn_addD (x y k:Nat):sgn ((D x k+D y k) % 2 ^ 64)=(D x k:Int)+D y k∧(D x k+D y k) % 2 ^ 64<2 ^ 64:=by
 have h1:=D_lt x k
 have h2:=D_lt y k
 refine ⟨?_,Nat.mod_lt _ (by decide)⟩
 rw [Nat.mod_eq_of_lt (by omega),sgn_nat (by omega)]
 push_cast
 rfl
theorem law71 {s:Nums} {x y:Nat} (hx:x<2 ^ 224) (hy:y<2 ^ 224) (h0:s 0=x) (h1:s 1=y) (h:Holds s 9 head71):sumW (vals s W7)=(x:Int)+y∧smallW (vals s W7)=true:=by
 obtain ⟨e8,e7,e6,e5,e4,e3,e2,_⟩:=h
 have f2:s 2=(D (s 0) 0+D (s 1) 0) % 2 ^ 64:=e2
 have f3:s 3=(D (s 0) 1+D (s 1) 1) % 2 ^ 64:=e3
 have f4:s 4=(D (s 0) 2+D (s 1) 2) % 2 ^ 64:=e4
 have f5:s 5=(D (s 0) 3+D (s 1) 3) % 2 ^ 64:=e5
 have f6:s 6=(D (s 0) 4+D (s 1) 4) % 2 ^ 64:=e6
 have f7:s 7=(D (s 0) 5+D (s 1) 5) % 2 ^ 64:=e7
 have f8:s 8=(D (s 0) 6+D (s 1) 6) % 2 ^ 64:=e8
 rw [h0,h1] at f2 f3 f4 f5 f6 f7 f8
 obtain ⟨a0,b0⟩:=sgn_addD x y 0
 obtain ⟨a1,b1⟩:=sgn_addD x y 1
 obtain ⟨a2,b2⟩:=sgn_addD x y 2
 obtain ⟨a3,b3⟩:=sgn_addD x y 3
 obtain ⟨a4,b4⟩:=sgn_addD x y 4
 obtain ⟨a5,b5⟩:=sgn_addD x y 5
 obtain ⟨a6,b6⟩:=sgn_addD x y 6
 rw [← f2] at a0 b0
 rw [← f3] at a1 b1
 rw [← f4] at a2 b2
 rw [← f5] at a3 b3
 rw [← f6] at a4 b4
 rw [← f7] at a5 b5
 rw [← f8] at a6 b6
 have x1:=sum_D hx
 have y1:=sum_D hy
 have lx:=D_lt x
 have ly:=D_lt y
 refine ⟨?_,smallW7 (a:=s 2) (b:=s 3) (c:=s 4) (d:=s 5) (e:=s 6) (f:=s 7) (g:=s 8) ⟨b0,b1,b2,b3,b4,b5,b6⟩ ?_⟩
 ·show sgn (s 2)+4294967296*(sgn (s 3)+4294967296*(sgn (s 4)+4294967296*(sgn (s 5)+4294967296*(sgn (s 6)+4294967296*(sgn (s 7)+4294967296*(sgn (s 8)+4294967296*0))))))=_
  rw [a0,a1,a2,a3,a4,a5,a6]
  clear f2 f3 f4 f5 f6 f7 f8 e2 e3 e4 e5 e6 e7 e8 a0 a1 a2 a3 a4 a5 a6 b0 b1 b2 b3 b4 b5 b6 lx ly
  omega
 ·have:=lx 0; have:=lx 1; have:=lx 2; have:=lx 3; have:=lx 4; have:=lx 5; have:=lx 6
  have:=ly 0; have:=ly 1; have:=ly 2; have:=ly 3; have:=ly 4; have:=ly 5; have:=ly 6
  clear f2 f3 f4 f5 f6 f7 f8 e2 e3 e4 e5 e6 e7 e8 x1 y1
  omega
theorem law70 {s:Nums} {x y:Nat} (hx:x<2 ^ 224) (hy:y<2 ^ 224) (h0:s 0=x) (h1:s 1=y) (h:Holds s 9 head70):sumW (vals s W7)=(x:Int) - y∧smallW (vals s W7)=true:=by
 obtain ⟨e8,e7,e6,e5,e4,e3,e2,_⟩:=h
 have f2:s 2=(D (s 0) 0+(2 ^ 64 - D (s 1) 0)) % 2 ^ 64:=e2
 have f3:s 3=(D (s 0) 1+(2 ^ 64 - D (s 1) 1)) % 2 ^ 64:=e3
 have f4:s 4=(D (s 0) 2+(2 ^ 64 - D (s 1) 2)) % 2 ^ 64:=e4
 have f5:s 5=(D (s 0) 3+(2 ^ 64 - D (s 1) 3)) % 2 ^ 64:=e5
 have f6:s 6=(D (s 0) 4+(2 ^ 64 - D (s 1) 4)) % 2 ^ 64:=e6
 have f7:s 7=(D (s 0) 5+(2 ^ 64 - D (s 1) 5)) % 2 ^ 64:=e7
 have f8:s 8=(D (s 0) 6+(2 ^ 64 - D (s 1) 6)) % 2 ^ 64:=e8
 rw [h0,h1] at f2 f3 f4 f5 f6 f7 f8
 obtain ⟨a0,b0⟩:=sgn_sub (D_lt x 0) (D_lt y 0)
 obtain ⟨a1,b1⟩:=sgn_sub (D_lt x 1) (D_lt y 1)
 obtain ⟨a2,b2⟩:=sgn_sub (D_lt x 2) (D_lt y 2)
 obtain ⟨a3,b3⟩:=sgn_sub (D_lt x 3) (D_lt y 3)
 obtain ⟨a4,b4⟩:=sgn_sub (D_lt x 4) (D_lt y 4)
 obtain ⟨a5,b5⟩:=sgn_sub (D_lt x 5) (D_lt y 5)
 obtain ⟨a6,b6⟩:=sgn_sub (D_lt x 6) (D_lt y 6)
 rw [← f2] at a0 b0
 rw [← f3] at a1 b1
 rw [← f4] at a2 b2
 rw [← f5] at a3 b3
 rw [← f6] at a4 b4
 rw [← f7] at a5 b5
 rw [← f8] at a6 b6
 have x1:=sum_D hx
 have y1:=sum_D hy
 have lx:=D_lt x
 have ly:=D_lt y
 refine ⟨?_,smallW7 (a:=s 2) (b:=s 3) (c:=s 4) (d:=s 5) (e:=s 6) (f:=s 7) (g:=s 8) ⟨b0,b1,b2,b3,b4,b5,b6⟩ ?_⟩
 ·show sgn (s 2)+4294967296*(sgn (s 3)+4294967296*(sgn (s 4)+4294967296*(sgn (s 5)+4294967296*(sgn (s 6)+4294967296*(sgn (s 7)+4294967296*(sgn (s 8)+4294967296*0))))))=_
  rw [a0,a1,a2,a3,a4,a5,a6]
  clear f2 f3 f4 f5 f6 f7 f8 e2 e3 e4 e5 e6 e7 e8 a0 a1 a2 a3 a4 a5 a6 b0 b1 b2 b3 b4 b5 b6 lx ly
  omega
 ·have:=lx 0; have:=lx 1; have:=lx 2; have:=lx 3; have:=lx 4; have:=lx 5; have:=lx 6
  have:=ly 0; have:=ly 1; have:=ly 2; have:=ly 3; have:=ly 4; have:=ly 5; have:=ly 6
  clear f2 f3 f4 f5 f6 f7 f8 e2 e3 e4 e5 e6 e7 e8 x1 y1
  omega
theorem meets71 (w:World) (bf of b1 o1 c1 b2 o2 c2 x y:Nat) (hc1:7≤c1) (hc2:7≤c2) (hfo:FoldsAt w bf of) (hx:El w b1 o1 x) (hy:El w b2 o2 y) :
  Meets Try.prog 71 #[curveV bf of,.slice (some ⟨b1,o1,none⟩) 7 c1,.slice (some ⟨b2,o2,none⟩) 7 c2] w (NewEl w 7 (((x:Int)+y) % pq).toNat):=by
 have:=hx.2
 have:=hy.2
 exact meets_ways ways71 Try.ntmps71 (by decide) Try.func71 (by kernel_rfl) (by kernel_rfl) (by decide) w bf of b1 o1 c1 b2 o2 c2 x y hc1 hc2 hfo hx hy (by omega) (by omega) fun s h0 h1 h=>law71 hx.2 hy.2 h0 h1 h
theorem meets70 (w:World) (bf of b1 o1 c1 b2 o2 c2 x y:Nat) (hc1:7≤c1) (hc2:7≤c2) (hfo:FoldsAt w bf of) (hx:El w b1 o1 x) (hy:El w b2 o2 y) :
  Meets Try.prog 70 #[curveV bf of,.slice (some ⟨b1,o1,none⟩) 7 c1,.slice (some ⟨b2,o2,none⟩) 7 c2] w (NewEl w 7 (((x:Int) - y) % pq).toNat):=by
 have:=hx.2
 have:=hy.2
 exact meets_ways ways70 Try.ntmps70 (by decide) Try.func70 (by kernel_rfl) (by kernel_rfl) (by decide) w bf of b1 o1 c1 b2 o2 c2 x y hc1 hc2 hfo hx hy (by omega) (by omega) fun s h0 h1 h=>law70 hx.2 hy.2 h0 h1 h
end P224
