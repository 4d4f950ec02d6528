/- The candidate of a square root: what its numbers come to. -/
import Derived.Test.YtccmmkgiamcgeaaHU1
import Derived.Test.YtccmmkgiamcgeaaHM1
import Derived.Test.YtccmmkgiamcgeaaHE1
import Derived.Test.YtccmmkgiamcgeaaHU3
import Derived.Test.YtccmmkgiamcgeaaHU2r0
import Derived.Test.YtccmmkgiamcgeaaHU2r1
import Derived.Test.YtccmmkgiamcgeaaHU2r2
set_option linter.all false
namespace P224
open Go Go.RowKit Go.Proofs
set_option maxRecDepth 100000
set_option linter.unusedVariables false
theorem xpw_mul {x a b:Nat}:xpw x a*xpw x b % pp=xpw x (a+b):=by
 rw [xpw_def,xpw_def,xpw_def,← Nat.mul_mod,← Nat.pow_add]
theorem xpw_one {x:Nat} (h:x<pp):xpw x 1=x:=by rw [xpw_def,Nat.pow_one,Nat.mod_eq_of_lt h]
theorem sqL_ok {s:Nums} {a:Nat} {l:List Ex}:∀ {m:Nat},Holds s (a+1+m) (sqL a m l)→Holds s (a+1) l∧∀ j,j≤m→s (a+j)=sqk j (s a)
 | 0,h=>⟨h,fun j hj=>by rw [show j=0 by omega]; rfl⟩
 | m+1,h=>by
  have h1:s (a+1+m)=s (a+m)*s (a+m) % pq:=h.1
  obtain ⟨h2,h3⟩:=sqL_ok (m:=m) h.2
  refine ⟨h2,fun j hj=>?_⟩
  by_cases e:j=m+1
  ·subst e
   rw [show a+(m+1)=a+1+m by omega,h1,sqk,h3 m (Nat.le_refl _)]
   rfl
  ·exact h3 j (by omega)
theorem sqk_xpw {x e:Nat}:∀ m,sqk m (xpw x e)=xpw x (e*2 ^ m)
 | 0=>by rw [sqk,Nat.pow_zero,Nat.mul_one]
 | m+1=>by rw [sqk,sqk_xpw m,xpw_mul,Nat.pow_succ,← Nat.mul_assoc,Nat.mul_two]
theorem sqL_pow {s:Nums} {a x e f:Nat} {l:List Ex} {m:Nat} (h:Holds s (a+1+m) (sqL a m l)) (he:e*2 ^ m=f):Holds s (a+1) l∧(s a=xpw x e→s (a+m)=xpw x f):=by
 obtain ⟨h1,h2⟩:=sqL_ok h
 refine ⟨h1,fun h3=>?_⟩
 rw [h2 m (Nat.le_refl _),h3,sqk_xpw,he]
theorem mul_pow {s:Nums} {x i j a b c:Nat} {k:Nat} (h:s k=s i*s j % pq) (hi:s i=xpw x a) (hj:s j=xpw x b) (hc:a+b=c):s k=xpw x c:=by
 rw [h,hi,hj,← hc]
 exact xpw_mul
theorem g0B_val:ofBytes g0B=g0N:=by decide +kernel
theorem exG_ok {s:Nums} (h:Holds s 98 exG):(∀ j,j<96→s (νA j)=ggN j)∧s 2=1:=by
 obtain ⟨h1,h2⟩:=sqL_ok (a:=3) (m:=94) h
 obtain ⟨h3,h4,h5,_⟩:=h1
 have e1:s 1=g0N:=by
  have:s 1=ofBytes g0B:=h5
  rw [this,g0B_val]
 have e3:s 3=s 1*s 1 % pq:=h3
 have e2:s 2=if s 1<pq then 1 else 0:=h4
 refine ⟨fun j hj=>?_,by rw [e2,e1]; exact if_pos g0_lt⟩
 match j,hj with
 | 0,_=>exact e1
 | j+1,hj =>
  have e:νA (j+1)=3+j:=by unfold νA; rw [if_neg (by omega),if_pos (by omega)]; omega
  rw [e,h2 j (by omega),e3,e1]
  have k:∀ j,sqk j (g0N*g0N % pq)=ggN (j+1):=fun j=>by
   induction j with
   | zero=>rfl
   | succ j ih=>rw [sqk,ih]; rfl
  exact k j
theorem ex7_ok {s:Nums} {x:Nat} (h0:s 0=xpw x 1) (h:Holds s 104 ex7):s 103=xpw x 7∧Holds s 98 exG:=by
 obtain ⟨h3,h2,h1,h0',_,_,hr⟩:=h
 have a100:=mul_pow (s:=s) (k:=100) h0' h0 h0 (c:=2) rfl
 have a101:=mul_pow (s:=s) (k:=101) h1 h0 a100 (c:=3) rfl
 have a102:=mul_pow (s:=s) (k:=102) h2 a101 a101 (c:=6) rfl
 exact ⟨mul_pow (s:=s) (k:=103) h3 h0 a102 rfl,hr⟩
theorem ex127_ok {s:Nums} {x:Nat} (h0:s 0=xpw x 1) (h:Holds s 110 ex127):s 109=xpw x 127∧s 108=xpw x 126∧s 107=xpw x 63∧Holds s 98 exG:=by
 obtain ⟨h1,hr⟩:=h
 obtain ⟨hr,a⟩:=sqL_pow (x:=x) (e:=63) (f:=126) (a:=107) (m:=1) hr rfl
 obtain ⟨h2,hr⟩:=hr
 obtain ⟨hr,b⟩:=sqL_pow (x:=x) (e:=7) (f:=56) (a:=103) (m:=3) hr rfl
 obtain ⟨h3,hG⟩:=ex7_ok h0 hr
 have a107:=mul_pow (s:=s) (k:=107) h2 h3 (b h3) (c:=63) rfl
 exact ⟨mul_pow (s:=s) (k:=109) h1 h0 (a a107) rfl,a a107,a107,hG⟩
theorem ex12_ok {s:Nums} {x:Nat} (h0:s 0=xpw x 1) (h:Holds s 116 ex12):s 115=xpw x 4095∧s 109=xpw x 127∧Holds s 98 exG:=by
 obtain ⟨h1,hr⟩:=h
 obtain ⟨hr,a⟩:=sqL_pow (x:=x) (e:=252) (f:=4032) (a:=110) (m:=4) hr rfl
 obtain ⟨h2,hr⟩:=hr
 obtain ⟨b109,b108,b107,hG⟩:=ex127_ok h0 hr
 have a110:=mul_pow (s:=s) (k:=110) h2 b108 b108 (c:=252) rfl
 exact ⟨mul_pow (s:=s) (k:=115) h1 b107 (a a110) rfl,b109,hG⟩
theorem ex24_ok {s:Nums} {x:Nat} (h0:s 0=xpw x 1) (h:Holds s 129 ex24):s 128=xpw x 16777215∧s 109=xpw x 127∧Holds s 98 exG:=by
 obtain ⟨h1,hr⟩:=h
 obtain ⟨hr,a⟩:=sqL_pow (x:=x) (e:=4095) (f:=16773120) (a:=115) (m:=12) hr rfl
 obtain ⟨b115,b109,hG⟩:=ex12_ok h0 hr
 exact ⟨mul_pow (s:=s) (k:=128) h1 b115 (a b115) rfl,b109,hG⟩
theorem ex31_ok {s:Nums} {x:Nat} (h0:s 0=xpw x 1) (h:Holds s 137 ex31):s 136=xpw x 2147483647∧s 135=xpw x 2147483520∧s 128=xpw x 16777215∧Holds s 98 exG:=by
 obtain ⟨h1,hr⟩:=h
 obtain ⟨hr,a⟩:=sqL_pow (x:=x) (e:=16777215) (f:=2147483520) (a:=128) (m:=7) hr rfl
 obtain ⟨b128,b109,hG⟩:=ex24_ok h0 hr
 exact ⟨mul_pow (s:=s) (k:=136) h1 b109 (a b128) rfl,a b128,b128,hG⟩
theorem ex48_ok {s:Nums} {x:Nat} (h0:s 0=xpw x 1) (h:Holds s 155 ex48):s 154=xpw x 281474976710655∧s 136=xpw x 2147483647∧Holds s 98 exG:=by
 obtain ⟨h1,hr⟩:=h
 obtain ⟨hr,a⟩:=sqL_pow (x:=x) (e:=4294967040) (f:=281474959933440) (a:=137) (m:=16) hr rfl
 obtain ⟨h2,hr⟩:=hr
 obtain ⟨b136,b135,b128,hG⟩:=ex31_ok h0 hr
 have a137:=mul_pow (s:=s) (k:=137) h2 b135 b135 (c:=4294967040) rfl
 exact ⟨mul_pow (s:=s) (k:=154) h1 b128 (a a137) rfl,b136,hG⟩
theorem ex96_ok {s:Nums} {x:Nat} (h0:s 0=xpw x 1) (h:Holds s 204 ex96):s 203=xpw x 79228162514264337593543950335∧s 136=xpw x 2147483647∧Holds s 98 exG:=by
 obtain ⟨h1,hr⟩:=h
 obtain ⟨hr,a⟩:=sqL_pow (x:=x) (e:=281474976710655) (f:=79228162514264056118567239680) (a:=154) (m:=48) hr rfl
 obtain ⟨b154,b136,hG⟩:=ex48_ok h0 hr
 exact ⟨mul_pow (s:=s) (k:=203) h1 b154 (a b154) rfl,b136,hG⟩
theorem e127:170141183460469231731687303715884105727+1=2 ^ 127:=rfl
theorem e128:340282366920938463463374607431768211454+1=2 ^ 128 - 1:=rfl
theorem exS_ok {s:Nums} {x:Nat} (hx:s 0=x) (lx:x<pp) (h:Holds s 245 exS):(∀ j,j<96→s (νA j)=ggN j)∧s 239=xpw x (2 ^ 127)∧s 238=xpw x (2 ^ 128 - 1)∧s 244=pp - 1∧s 2=1:=by
 have h0:s 0=xpw x 1:=by rw [xpw_one lx,hx]
 obtain ⟨h244,h243,_,h241,_,h239,h238,h237,_,h235,hr⟩:=h
 obtain ⟨hr,a⟩:=sqL_pow (x:=x) (e:=79228162514264337593543950335) (f:=170141183460469231731687303713736622080) (a:=203) (m:=31) hr rfl
 obtain ⟨b203,b136,hG⟩:=ex96_ok h0 hr
 have a235:=mul_pow (s:=s) (k:=235) h235 b136 (a b203) (c:=170141183460469231731687303715884105727) rfl
 have a237:=mul_pow (s:=s) (k:=237) h237 a235 a235 (c:=340282366920938463463374607431768211454) rfl
 obtain ⟨g1,g2⟩:=exG_ok hG
 refine ⟨g1,mul_pow (s:=s) (k:=239) h239 a235 h0 e127,mul_pow (s:=s) (k:=238) h238 a237 h0 e128,?_,g2⟩
 have e1:s 241=0:=h241
 have e3:s 243=1:=h243
 have e4:s 244=(s 241+(pq - s 243)) % pq:=h244
 rw [e4,e1,e3]
 decide +kernel
theorem sqE_ok {s:Nums}:∀ {k:Nat},Holds s (101+k) (sqE k)→s (wN k)=sqk k (s 97)
 | 0,h=>rfl
 | 1,h=>by
  have h1:s 101=s 97*s 97 % pq:=h.1
  exact h1
 | k+2,h=>by
  have h1:s (102+k)=s (101+k)*s (101+k) % pq:=by
   have:=h.1
   rw [show 101+(k+2) - 1=102+k by omega] at this
   exact this
  have ih:=sqE_ok (k:=k+1) h.2
  have e1:wN (k+1)=101+k:=by unfold wN; rw [if_neg (by omega)]; omega
  have e2:wN (k+2)=102+k:=by unfold wN; rw [if_neg (by omega)]; omega
  rw [e1] at ih
  rw [e2,h1,ih]
  rfl
theorem rdE_ok {s:Nums} {k:Nat} (hk:k<95) (hG:∀ j,j<96→s j=ggN j) (h98:s 98=pp - 1) (hH:Holds s (106+k) (rdE k)):(s (103+k),s (105+k))=tsOne k (s 97,s 96):=by
 have n1:106+k=101+k+1+1+1+1+1:=by omega
 rw [n1] at hH
 obtain ⟨h5,h4,h3,h2,h1,hr⟩:=hH
 have e5:s (105+k)=if s (101+k)=0 then s 96 else s (104+k):=by
  rw [show 105+k=101+k+1+1+1+1 by omega]; exact h5
 have e4:s (104+k)=s 96*s (94 - k) % pq:=by
  rw [show 104+k=101+k+1+1+1 by omega]; exact h4
 have e3:s (103+k)=if s (101+k)=0 then s 97 else s (102+k):=by
  rw [show 103+k=101+k+1+1 by omega]; exact h3
 have e2:s (102+k)=s 97*s (95 - k) % pq:=by
  rw [show 102+k=101+k+1 by omega]; exact h2
 have e1:s (101+k)=if s (wN k)=s 98 then 1 else 0:=h1
 rw [sqE_ok hr,h98] at e1
 rw [hG (94 - k) (by omega)] at e4
 rw [hG (95 - k) (by omega)] at e2
 unfold tsOne
 by_cases hc:sqk k (s 97)=pp - 1
 ·rw [if_pos hc] at e1
  rw [if_neg (by rw [e1]; decide)] at e5 e3
  rw [if_pos hc,e5,e3,e4,e2]
  rfl
 ·rw [if_neg hc] at e1
  rw [if_pos e1] at e5 e3
  rw [if_neg hc,e5,e3]
end P224
/- The candidate of a square root: its loop, and its contract. -/
namespace P224
open Go Go.RowKit Go.Proofs
set_option maxRecDepth 100000
set_option linter.unusedVariables false
theorem sqRuns:∀ k,k<95→SqRun k
 | 0,_=>sq0
 | 1,_=>sq1
 | 2,_=>sq2
 | 3,_=>sq3
 | 4,_=>sq4
 | 5,_=>sq5
 | 6,_=>sq6
 | 7,_=>sq7
 | 8,_=>sq8
 | 9,_=>sq9
 | 10,_=>sq10
 | 11,_=>sq11
 | 12,_=>sq12
 | 13,_=>sq13
 | 14,_=>sq14
 | 15,_=>sq15
 | 16,_=>sq16
 | 17,_=>sq17
 | 18,_=>sq18
 | 19,_=>sq19
 | 20,_=>sq20
 | 21,_=>sq21
 | 22,_=>sq22
 | 23,_=>sq23
 | 24,_=>sq24
 | 25,_=>sq25
 | 26,_=>sq26
 | 27,_=>sq27
 | 28,_=>sq28
 | 29,_=>sq29
 | 30,_=>sq30
 | 31,_=>sq31
 | 32,_=>sq32
 | 33,_=>sq33
 | 34,_=>sq34
 | 35,_=>sq35
 | 36,_=>sq36
 | 37,_=>sq37
 | 38,_=>sq38
 | 39,_=>sq39
 | 40,_=>sq40
 | 41,_=>sq41
 | 42,_=>sq42
 | 43,_=>sq43
 | 44,_=>sq44
 | 45,_=>sq45
 | 46,_=>sq46
 | 47,_=>sq47
 | 48,_=>sq48
 | 49,_=>sq49
 | 50,_=>sq50
 | 51,_=>sq51
 | 52,_=>sq52
 | 53,_=>sq53
 | 54,_=>sq54
 | 55,_=>sq55
 | 56,_=>sq56
 | 57,_=>sq57
 | 58,_=>sq58
 | 59,_=>sq59
 | 60,_=>sq60
 | 61,_=>sq61
 | 62,_=>sq62
 | 63,_=>sq63
 | 64,_=>sq64
 | 65,_=>sq65
 | 66,_=>sq66
 | 67,_=>sq67
 | 68,_=>sq68
 | 69,_=>sq69
 | 70,_=>sq70
 | 71,_=>sq71
 | 72,_=>sq72
 | 73,_=>sq73
 | 74,_=>sq74
 | 75,_=>sq75
 | 76,_=>sq76
 | 77,_=>sq77
 | 78,_=>sq78
 | 79,_=>sq79
 | 80,_=>sq80
 | 81,_=>sq81
 | 82,_=>sq82
 | 83,_=>sq83
 | 84,_=>sq84
 | 85,_=>sq85
 | 86,_=>sq86
 | 87,_=>sq87
 | 88,_=>sq88
 | 89,_=>sq89
 | 90,_=>sq90
 | 91,_=>sq91
 | 92,_=>sq92
 | 93,_=>sq93
 | 94,_=>sq94
 | k+95,h=>absurd h (by omega)
theorem headS (k:Nat):HeadOk (tmS k) memS 100 6:=⟨rfl,by kernel_rfl,rfl,rfl⟩
structure AtS (V:World) (b o x k:Nat) (a:Act) (w:World):Prop where
 rel:∃ (s:Nums) (β:Places),Rel (fixO 216 2 []) s β V (headO (tmS k) memS 100 6 96) a w∧β 0=(b,o)∧(∀ j,j<96→s j=ggN j)∧s 98=pp - 1∧sndN (tsr k (s 97,s 96))=sqrtN x
theorem rdE_sc (k:Nat) (hk:k<95):inScope (106+k) (rdE k)=true∧(rdE k).length≤106+k∧106+k - (rdE k).length=100:=by
 have key:((List.range 95).all fun k=>inScope (106+k) (rdE k) && decide ((rdE k).length≤106+k) && decide (106+k - (rdE k).length=100))=true:=by decide +kernel
 have:=List.all_eq_true.1 key k (List.mem_range.2 hk)
 simp only [Bool.and_eq_true,decide_eq_true_eq] at this
 exact ⟨this.1.1,this.1.2,this.2⟩
theorem renS:RenOk 2 6 6 id:=⟨fun _ _=>rfl,fun r h1 h2=>⟨h1,h2⟩,fun r q _ _ _ _ h=>h,by decide⟩
section
variable {V:World} {b o x:Nat}
theorem roundS {k:Nat} (hk:k<95) {a:Act} {w:World} (h:AtS V b o x (k+1) a w) {Q:Exit→Act→World→Prop} (hn:∀ a' w',AtS V b o x k a' w'→Q .normal a' w'):kS.wp Try.prog Q a w:=by
 obtain ⟨s,β,hr,hb,hG,h98,ht⟩:=h.rel
 obtain ⟨c1,c2,c3⟩:=rdE_sc k hk
 have hrun:SqRun k:=sqRuns k hk
 refine hopO (l:=[kS]) (os:=[96]) tabU_ok (by decide) (nold:=2) (d:=[]) hr (headS (k+1)) (by decide) (by decide) id (νS k) (tl':=tmS k) (ml':=memS) (i2:=96) (nx2:=100) (nr2:=6) hrun c1 c2 c3 (fun s1 _ _ i b hb=>by cases hb) (headS k) (by decide) renS fun s1 β' a' w' e hH hb' hr'=>?_
 refine hn a' w' ⟨_,β',hr',(hb' 0 (by decide)).trans hb,fun j hj=>?_,?_,?_⟩
 ·show s1 (νS k j)=_
  have:νS k j=j:=by unfold νS; rw [if_neg (by omega),if_neg (by omega),if_neg (by omega)]
  rw [this,e j (by omega)]
  exact hG j hj
 ·show s1 98=_
  rw [e 98 (by decide)]
  exact h98
 ·show sndN (tsr k (s1 (103+k),s1 (105+k)))=_
  rw [rdE_ok hk (fun j hj=>by rw [e j (by omega)]; exact hG j hj) (by rw [e 98 (by decide)]; exact h98) hH,e 97 (by decide),e 96 (by decide)]
  exact ht
def DoneS (V:World) (b o x:Nat) (a:Act) (w:World):Prop:=a.defers=[]∧Below V.heap.size (V.setCells b o (words (sqrtN x))) w
theorem exitS {a:Act} {w:World} (h:AtS V b o x 0 a w) {Q:Exit→Act→World→Prop} (hn:∀ a' w',DoneS V b o x a' w'→Q (.exit 16) a' w'):kS.wp Try.prog Q a w:=by
 obtain ⟨s,β,hr,hb,hG,h98,ht⟩:=h.rel
 refine hopO (l:=[kS]) (os:=[]) tabU_ok (by decide) (nold:=2) (d:=[]) hr (headS 0) (by decide) (by decide) id id (tl':=[]) (ml':=[]) (i2:=96) (nx2:=100) (nr2:=6) sqExit (by decide) (by decide) (by decide) (fun s1 _ _ i b hb=>by cases hb) ⟨rfl,rfl,rfl,rfl⟩ (by decide) renS fun s1 β' a' w' e hH hb' hr'=>?_
 refine hn a' w' ⟨hr'.defs,?_⟩
 have hbe:=hr'.below
 have e0:β' 0=(b,o):=(hb' 0 (by decide)).trans hb
 have e96:s1 96=sqrtN x:=by
  rw [e 96 (by decide)]
  exact ht
 have:Below V.heap.size (applyOut (fun i=>s1 (id i)) β' V (outL 96)) w':=hbe
 rw [outL_apply e0] at this
 have e':s1 (id 96)=sqrtN x:=e96
 rw [e'] at this
 exact this
theorem loopS {Q:Exit→Act→World→Prop} (hn:∀ a' w',DoneS V b o x a' w'→Q (.exit 16) a' w'):∀ (k:Nat),k≤95→∀ {a:Act} {w:World},AtS V b o x k a w→Code.rounds Try.prog kS Q (k+1) a w
 | 0,_,a,w,h=>by
  show kS.wp Try.prog (Exit.then (Code.rounds Try.prog kS Q 0) Q) a w
  exact exitS h hn
 | k+1,hk,a,w,h=>by
  show kS.wp Try.prog (Exit.then (Code.rounds Try.prog kS Q (k+1)) Q) a w
  exact roundS (by omega) h fun a' w' h'=>loopS hn k (by omega) h'
end
theorem body117:Try.f117.body=some c117:=by kernel_rfl
theorem l117_ne:l117≠[]:=by
 have h:l117.isEmpty=false:=by kernel_rfl
 intro e
 rw [e] at h
 cases h
theorem ρA_ok:RenOk 2 6 8 ρA:=by
 refine ⟨fun r h=>?_,fun r h1 h2=>?_,fun r q h1 h2 h3 h4 h5=>?_,by decide⟩
 ·have:r=0∨r=1:=by omega
  rcases this with rfl | rfl <;> rfl
 ·have:r=2∨r=3∨r=4∨r=5:=by omega
  rcases this with rfl | rfl | rfl | rfl <;> decide
 ·have hr:r=2∨r=3∨r=4∨r=5:=by omega
  have hq:q=2∨q=3∨q=4∨q=5:=by omega
  rcases hr with rfl | rfl | rfl | rfl <;> rcases hq with rfl | rfl | rfl | rfl <;> first | exact absurd rfl h5 | decide
theorem meets117 (w:World) (b o b1 o1 x:Nat) (hlt:b<w.heap.size) (hroom:RoomAt w b o) (hne:b≠b1) (hx:ElemAt w b1 o1 x) (lx:x<pq):Meets Try.prog 117 #[ptrTo b o,ptrTo b1 o1] w fun _ w'=>Below w.heap.size (w.setCells b o (words (sqrtN x))) w':=by
 refine meets_of_calls Try.func117 (by kernel_rfl) (by kernel_rfl) ?_
 obtain ⟨s,hH,hs⟩:=exists_nums (fun _=>x) (n:=245) (l:=exS) (by decide +kernel) (by decide +kernel)
 have h0:s 0=x:=hs 0 (by decide +kernel)
 obtain ⟨a1,a2,a3,a4,a5⟩:=exS_ok h0 (lt_pp lx) hH
 have hd:Dec (fixO 216 2 [(2,true)]) s:=fun i c hc=>by
  have hm:=findT_mem (show findT i [(2,true)]=some c from hc)
  simp only [List.mem_cons,List.not_mem_nil,or_false,Prod.mk.injEq] at hm
  obtain ⟨rfl,rfl⟩:=hm
  exact a5
 let β:Places:=fun r=>if r=0 then (b,o) else (b1,o1)
 have hlt1:b1<w.heap.size:=World.block_lt_of_cell? w _ (hx 0 (by decide))
 have hstart:Rel (fixO 216 2 [(2,true)]) s β w stS { tmps:=[ptrTo b o,ptrTo b1 o1].toArray ++ Array.replicate (Try.f117.ntmps - [ptrTo b o,ptrTo b1 o1].toArray.size) undef,defers:=[] } w:=by
  refine rel_start (F:=fixO 216 2 [(2,true)]) rfl (by kernel_rfl) (by decide) (by decide) (fun j y v hy hv=>?_) (fun r l hl=>?_) (fun r l hl hw=>?_) (fun r hr=>?_) (fun r q h1 h2 h3=>?_) hd
  ·match j,hy,hv with
   | 0,hy,hv=>cases hy; cases hv; exact ⟨rfl,show 0<2 by decide⟩
   | 1,hy,hv=>cases hy; cases hv; exact ⟨rfl,show 1<2 by decide⟩
   | j+2,hy,hv=>cases hy
  ·have key:∀ q k,RowOk s β 2 q w 0 k→CellsOk s β 2 q k w:=fun q k h j y hy=>by
    have:=h.get j y hy
    rwa [Nat.zero_add] at this
   by_cases e0:r=0
   ·subst e0
    cases hl
    exact ⟨show 0<2 by decide,key 0 _ (any4_row rfl hroom)⟩
   ·by_cases e1:r=1
    ·subst e1
     cases hl
     exact ⟨show 1<2 by decide,key 1 _ (limb_row rfl hx h0 lx)⟩
    ·exfalso
     have:lookup r [(0,any4),(1,limbs 0)]=none:=by
      rw [lookup,lookup,lookup,show ((0:Nat) == r)=false from by simp; omega,show ((1:Nat) == r)=false from by simp; omega]
      rfl
     rw [this] at hl
     cases hl
  ·have e0:r=0:=by
    have:[0].contains r=true:=hw
    simpa using this
   subst e0
   cases hl
   exact any4_frz rfl hroom
  ·show (if r=0 then (b,o) else (b1,o1)).1<_
   split
   ·exact hlt
   ·exact hlt1
  ·have h1':r=0∨r=1:=by have:r<2:=h1; omega
   have h2':q=0∨q=1:=by have:q<2:=h2; omega
   rcases h1' with rfl | rfl <;> rcases h2' with rfl | rfl
   ·exact absurd h3 (by decide)
   ·exact hne
   ·exact Ne.symm hne
   ·exact absurd h3 (by decide)
 refine calls_of_wp Try.func117 body117 ?_
 rw [shape117]
 refine seqs_wp l117_ne ?_
 refine to_headO (i2:=96) (nx2:=100) (nr2:=6) (os:=[235,136,109,103,102,101,100]) tabU_ok (by decide) hstart ρA νA (by decide) sqStart hH (headS 95) (by decide) ρA_ok fun β' a' w' hb hr=>?_
 refine wp_block (wp_loop_rounds 96 ?_)
 refine loopS (V:=w) (b:=b) (o:=o) (x:=x) (fun a2 w2 hdone=>?_) 95 (Nat.le_refl _) ⟨_,β',hr,hb 0 (by decide),fun j hj=>a1 j hj,a4,?_⟩
 ·obtain ⟨d1,d2⟩:=hdone
  have hr0:(results Try.f117 a2.tmps).run Try.prog w2=.ok (.tuple #[]) w2:=by
   rw [results_eq,show Try.f117.results=#[] by kernel_rfl]
   simp
  exact ⟨d1,_,hr0,_,rfl,d2⟩
 ·show sndN (tsr 95 (s 238,s 239))=_
  rw [a2,a3,sqrtN_def]
end P224
/- The candidate of a square root, as a call that the executor knows; p224Sqrt in place. -/
namespace P224
open Go Go.RowKit Go.Proofs
set_option maxRecDepth 100000
set_option linter.unusedVariables false
def x117:X:=fun F st args=>match args with
 | [.one (.ptr r o),.one (.ptr r1 o1)]=>match elemAt st.mem r1 o1 with
  | some i=>bif apart2 F st.nr r r1 then
    (match write F { st with nx:=st.nx+1,exs:=.op 34 [.v i] :: st.exs } r o (limbs st.nx) with
    | some st'=>some (.one .any,st')
    | none=>none) else none
  | none=>none
 | _=>none
theorem x117_ok:XOk Try.prog 117 x117:=by
 refine ⟨fun {F st st' args av} h=>?_,fun {s β F w0 st st' a w args vs av} hr h hargs hH=>?_⟩
 ·unfold x117 at h
  split at h
  ·split at h
   ·obtain ⟨_,h⟩:=bif_some h
    split at h
    ·rename_i hw
     cases h
     obtain ⟨a1,a2,a3,_⟩:=write_nr hw
     exact ⟨⟨[_],a3,a2⟩,by rw [a1]; exact Nat.le_refl _⟩
    ·cases h
   ·cases h
  ·cases h
 ·unfold x117 at h
  split at h
  ·rename_i r o r1 o1
   split at h
   ·rename_i i hi
    obtain ⟨hap,h⟩:=bif_some h
    split at h
    ·rename_i st1 hw
     cases h
     obtain ⟨u,v,rfl,hu,hv⟩:=avs2 hargs
     obtain ⟨rfl,hrn⟩:=hu
     obtain ⟨rfl,_⟩:=hv
     obtain ⟨b1,b2,b3,_⟩:=write_nr hw
     rw [b2,b3] at hH
     obtain ⟨e1,_⟩:=hH
     have e1':s st.nx=sqrtN (s i):=e1
     obtain ⟨g1,g2⟩:=elemAt_rep hr hi
     have h':=hr.nums (st.nx+1) (.op 34 [.v i] :: st.exs)
     obtain ⟨q1,r1'⟩:=room_of h' hw rfl
     have hm:=meets117 w (β r).1 ((β r).2+o) (β r1).1 ((β r1).2+o1) (s i) (h'.block_lt q1) r1' (apart2_rep hr hap) g1 g2
     intro o' a' next Q hn
     refine hm o' a' next Q fun v' w' hb=>hn _ _ ?_
     rw [← e1'] at hb
     refine ⟨β,Agree.refl _ _,trivial,h'.wrote hw hb (limbs_rep ?_)⟩
     show s st.nx<pq
     rw [e1']
     exact (sqrtN_lt _ (lt_pp g2)).1
    ·cases h
   ·cases h
  ·cases h
noncomputable def xu104:List (Nat × X):=(117,x117) :: xi1
theorem xu104_ok:XsOk xu104:=xcons_ok x117_ok xi1_ok
noncomputable def xu85:List (Nat × X):=with1 xu104 pointPrims 2000 104 Try.f104
theorem xu85_ok:XsOk xu85:=with1_ok pointPrims_ok xu104_ok Try.func104 (by kernel_rfl)
end P224
/- Select of elements by a signed word that is told to be 0 or 1. -/
namespace P224
open Go Go.RowKit Go.Proofs
set_option maxRecDepth 100000
set_option linter.unusedVariables false
theorem avs4 {s:Nums} {β:Places} {n:Nat} {x y z k:AV} {vals:List Value} (h:AVs s β n [x,y,z,k] vals):∃ u v t q,vals=[u,v,t,q]∧x.rep s β n u∧y.rep s β n v∧z.rep s β n t∧k.rep s β n q:=by
 obtain ⟨hl,hg⟩:=h
 match vals,hl,hg with
 | [u,v,t,q],_,hg=>exact ⟨u,v,t,q,rfl,hg 0 _ u rfl rfl,hg 1 _ v rfl rfl,hg 2 _ t rfl rfl,hg 3 _ q rfl rfl⟩
def x105:X:=fun F st args=>match args with
 | [.one (.ptr r o),.one (.ptr r1 o1),.one (.ptr r2 o2),.one (.sg c)]=>match elemAt st.mem r1 o1,elemAt st.mem r2 o2 with
  | some i,some j=>bif F.dec st.nx == some true then
    (match write F { st with nx:=st.nx+1+1,exs:=.sel (.v c) (.v j) (.v i) :: .op 10 [.v c,.c 1] :: st.exs } r o (limbs (st.nx+1)) with
    | some st'=>some (.one (.ptr r o),st')
    | none=>none) else none
  | _,_=>none
 | _=>none
theorem x105_ok:XOk Try.prog 105 x105:=by
 refine ⟨fun {F st st' args av} h=>?_,fun {s β F w0 st st' a w args vs av} hr h hargs hH=>?_⟩
 ·unfold x105 at h
  split at h
  ·split at h
   ·obtain ⟨_,h⟩:=bif_some h
    split at h
    ·rename_i hw
     cases h
     obtain ⟨a1,a2,a3,_⟩:=write_nr hw
     exact ⟨⟨[_,_],a3,a2⟩,by rw [a1]; exact Nat.le_refl _⟩
    ·cases h
   ·cases h
  ·cases h
 ·unfold x105 at h
  split at h
  ·rename_i r o r1 o1 r2 o2 c
   split at h
   ·rename_i i j hi hj
    obtain ⟨hd,h⟩:=bif_some h
    split at h
    ·rename_i st1 hw
     cases h
     obtain ⟨u,v,t,q,rfl,hu,hv,ht,hq⟩:=avs4 hargs
     obtain ⟨rfl,hrn⟩:=hu
     obtain ⟨rfl,_⟩:=hv
     obtain ⟨rfl,_⟩:=ht
     obtain ⟨rfl,_⟩:=hq
     obtain ⟨b1,b2,b3,_⟩:=write_nr hw
     rw [b2,b3] at hH
     obtain ⟨e2,e1,_⟩:=hH
     have e1':s st.nx=if s c≤1 then 1 else 0:=e1
     have hd':s st.nx=1:=hr.dec _ _ (beq_iff_eq.1 hd)
     have hc1:s c≤1:=by
      by_cases hh:s c≤1
      ·exact hh
      ·rw [if_neg hh,hd'] at e1'; cases e1'
     obtain ⟨hi1,hi2⟩:=elemAt_rep hr hi
     obtain ⟨hj1,hj2⟩:=elemAt_rep hr hj
     have hr1:=hr.nums (st.nx+1) (.op 10 [.v c,.c 1] :: st.exs)
     have h':=hr1.nums (st.nx+1+1) (.sel (.v c) (.v j) (.v i) :: .op 10 [.v c,.c 1] :: st.exs)
     obtain ⟨q1,hroom⟩:=room_of h' hw rfl
     have hp:=meets105 w _ _ _ _ _ _ _ _ (s c) (h'.block_lt q1) (fun k hk=>hroom k hk) hi1 hj1 hi2 hj2 hc1
     rw [sgn_nat (show s c<2 ^ 63 by omega)]
     intro o' a' next Q hn
     refine hp o' a' next Q fun v w' ⟨hv',hb⟩=>hn _ _ ?_
     refine after_elem (q:=false) hr1 hw e2 ?_ (fun _=>hv') hb
     show (if s c=0 then s j else s i)<pq
     split
     ·exact hj2
     ·exact hi2
    ·cases h
   ·cases h
  ·cases h
end P224
