/- More operations of the executor: numbers that are known, and signed words. -/
import Derived.Test.YtccmmkgiamcgeaaGE1
import Derived.WideLaws
import Derived.Laws.Cover3
import Derived.ArgAppend
import Derived.Great.BuildSlice
import Derived.Test.YtccmmkgiamcgeaaGF5
set_option linter.all false
namespace P224
open Go Go.RowKit
abbrev Qx:=Fix→(Nat→Bool)→St→Op→Option (AV × List Ex)
abbrev Lx:=Fix→St→Op→Option (AV × St)
def Qx.or (p q:Qx):Qx:=fun F L st op=>match p F L st op with
 | some r=>some r
 | none=>q F L st op
def Lx.or (p q:Lx):Lx:=fun F st op=>match p F st op with
 | some r=>some r
 | none=>q F st op
theorem QextOk.or {P:Program} {p q:Qx} (h:QextOk P p) (h':QextOk P q):QextOk P (Qx.or p q):=by
 intro s β F L st a o av l m hd hq ht hH w0 hw
 unfold Qx.or at hq
 split at hq
 ·rename_i r hr
  cases hq
  exact h hd hr ht hH hw
 ·exact h' hd hq ht hH hw
theorem LextOk.or {P:Program} {p q:Lx} (h:LextOk P p) (h':LextOk P q):LextOk P (Lx.or p q):=by
 refine ⟨fun hq=>?_,fun hr hq hH=>?_⟩
 ·unfold Lx.or at hq
  split at hq
  ·rename_i r hr
   cases hq
   exact h.1 hr
  ·exact h'.1 hq
 ·intro next Q hn
  unfold Lx.or at hq
  split at hq
  ·rename_i r hr'
   cases hq
   exact h.2 hr hr' hH hn
  ·exact h'.2 hr hq hH hn
def litBin (op:BinOp) (k:IntKind) (a b:Int):Option Value :=
 match op with
 | .add=>some (.int k (k.wrap (a+b)))
 | .sub=>some (.int k (k.wrap (a - b)))
 | .mul=>some (.int k (k.wrap (a*b)))
 | .quo=>bif decide (b=0) then none else some (.int k (k.wrap (a.tdiv b)))
 | .rem=>bif decide (b=0) then none else some (.int k (a.tmod b))
 | .and=>some (.int k (k.wrap (BitVec.ofInt k.bits a &&& BitVec.ofInt k.bits b).toNat))
 | .eql=>some (.bool (a == b))
 | .neq=>some (.bool (a != b))
 | .lss=>some (.bool (a<b))
 | .leq=>some (.bool (a≤b))
 | .gtr=>some (.bool (a > b))
 | .geq=>some (.bool (a ≥ b))
 | _=>none
def litShift (op:BinOp) (k:IntKind) (a n:Int):Option Value :=
 bif decide (n<0) then none else match op with
 | .shl=>some (.int k (k.wrap (a*2 ^ (min n.toNat k.bits))))
 | .shr=>some (.int k (a.fdiv (2 ^ (min n.toNat k.bits))))
 | _=>none
theorem guard_int {P:Program} (op:BinOp) (t:TypeId) (ox oy:Operand) (k k':IntKind) (a b:Int) (w:World) :
  (eqGuard op t ox oy (.int k a) (.int k' b)).run P w=.ok () w:=by
 cases op <;> rfl
theorem litBin_run {P:Program} {op:BinOp} {k:IntKind} {a b:Int} {v:Value} (h:litBin op k a b=some v) (t:TypeId) (w:World):(binOp op t (.int k a) (.int k b)).run P w=.ok v w:=by
 unfold litBin at h
 split at h <;> first | (cases h; done) | skip
 all_goals try (cases h; simp only [binOp,Op.intArith,Op.intBits,Op.intCmp,ne_eq,not_true_eq_false,if_false,Sem.run_pure]; done)
 all_goals
  (cases hb:decide (b=0) with
   | true=>rw [hb,cond_true] at h; cases h
   | false =>
    rw [hb,cond_false] at h
    cases h
    have hb':=of_decide_eq_false hb
    simp only [binOp,Op.intDiv,ne_eq,not_true_eq_false,if_false,hb',Sem.run_pure])
theorem litShift_run {P:Program} {op:BinOp} {k k':IntKind} {a n:Int} {v:Value} (h:litShift op k a n=some v) (t:TypeId) (w:World):(binOp op t (.int k a) (.int k' n)).run P w=.ok v w:=by
 unfold litShift at h
 cases hb:decide (n<0) with
 | true=>rw [hb,cond_true] at h; cases h
 | false =>
  rw [hb,cond_false] at h
  have hb':=of_decide_eq_false hb
  split at h <;> cases h <;> simp only [binOp,Op.shift,hb',if_false,Sem.run_pure]
def qLit (kind:TypeId→Option IntKind):Qx:=fun _ _ st op=>match op with
 | .binOp op _ x y _=>match st.ev x,st.ev y with
  | .one (.lit (.int k a)),.one (.lit (.int k' b))=>match litShift op k a b with
   | some v=>some (.one (.lit v),[])
   | none=>bif decide (k=k') then (match litBin op k a b with
    | some v=>some (.one (.lit v),[])
    | none=>none) else none
  | _,_=>none
 | .convert s d x=>match kind s,kind d,st.ev x with
  | some _,some k',.one (.lit (.int _ n))=>some (.one (.lit (.int k' (k'.wrap n))),[])
  | _,_,_=>none
 | _=>none
theorem qLit_ok {P:Program} {kind:TypeId→Option IntKind} (hk:∀ t k,kind t=some k→P.underlying t=some (.int k)):QextOk P (qLit kind):=by
 intro s β F L st a o av l m hd h ht hH w0 hw0
 unfold qLit at h
 split at h
 ·rename_i op t x y t' ho
  split at h
  ·rename_i k p k' q hp hq
   have hx:=ev_rep ht x
   have hy:=ev_rep ht y
   rw [hp] at hx
   rw [hq] at hy
   have hx':a.eval x=.int k p:=hx
   have hy':a.eval y=.int k' q:=hy
   split at h
   ·rename_i v hv
    cases h
    refine ⟨v,rfl,fun w _=>?_⟩
    have h1:=litShift_run (P:=P) (k':=k') hv t w
    simp only [execOp,ho,hx',hy',Sem.run_bind,guard_int,Result.andThen,h1,Sem.run_pure]
   ·obtain ⟨hkk,h2⟩:=bif_some h
    have hkk:=of_decide_eq_true hkk
    subst hkk
    split at h2
    ·rename_i v hv
     cases h2
     refine ⟨v,rfl,fun w _=>?_⟩
     have h1:=litBin_run (P:=P) hv t w
     simp only [execOp,ho,hx',hy',Sem.run_bind,guard_int,Result.andThen,h1,Sem.run_pure]
    ·cases h2
  ·cases h
 ·rename_i sr ds x ho
  split at h
  ·rename_i k k' k'' n h1 h2 hp
   cases h
   have hx:=ev_rep ht x
   rw [hp] at hx
   have hx':a.eval x=.int k'' n:=hx
   refine ⟨_,rfl,fun w _=>?_⟩
   simp only [execOp,ho,hx',convert,Sem.run_bind,run_underlying (hk _ _ h1),run_underlying (hk _ _ h2),Result.andThen,Conv.intToInt,Sem.run_pure]
  ·cases h
 ·cases h
def A0.sword:A0→Option Wd
 | .lit (.int .i64 n)=>bif decide (-2 ^ 63≤n) && decide (n<2 ^ 63) then some (.c (n % 2 ^ 64).toNat) else none
 | .sg i=>some (.v i)
 | .l32 i k=>some (.w i k)
 | .bit .i64 i=>some (.v i)
 | _=>none
theorem sgn_small {n:Nat} (h:n<2 ^ 63):sgn n=n:=if_pos h
theorem wrap_sgn {z:Int} {n:Nat} (h:(n:Int)=z % 2 ^ 64):IntKind.i64.wrap z=sgn n:=by
 rw [IntKind.wrap_i64]
 unfold sgn
 split <;> omega
theorem sgn_mod (n:Nat):(sgn n - n) % 2 ^ 64=0:=by
 unfold sgn
 split <;> omega
theorem sgn_inj {x y:Nat} (hx:x<2 ^ 64) (hy:y<2 ^ 64) (h:sgn x=sgn y):x=y:=by
 unfold sgn at h
 split at h <;> split at h <;> omega
theorem sword_rep {s:Nums} {β:Places} {n:Nat} {a:A0} {w:Wd} {v:Value} (h:a.sword=some w) (hr:a.rep s β n v):v=.int .i64 (sgn (w.val s))∧w.val s<2 ^ 64:=by
 unfold A0.sword at h
 split at h
 ·rename_i z
  obtain ⟨h1,h2⟩:=bif_some h
  cases h2
  simp only [Bool.and_eq_true,decide_eq_true_eq] at h1
  have hr':v=.int .i64 z:=hr
  rw [hr']
  refine ⟨?_,?_⟩
  ·show Value.int .i64 z=.int .i64 (sgn (z % 2 ^ 64).toNat)
   congr 1
   unfold sgn
   split <;> omega
  ·show (z % 2 ^ 64).toNat<2 ^ 64
   omega
 ·cases h; exact hr
 ·rename_i i k
  cases h
  have h0:s i / 2 ^ (32*k) % 2 ^ 32<2 ^ 32:=Nat.mod_lt _ (by decide)
  refine ⟨?_,Nat.lt_of_lt_of_le h0 (by decide)⟩
  rw [hr.1]
  show Value.int .i64 _=.int .i64 (sgn (s i / 2 ^ (32*k) % 2 ^ 32))
  rw [sgn_small (Nat.lt_of_lt_of_le h0 (by decide))]
 ·rename_i i
  cases h
  obtain ⟨rfl,h1⟩:=hr
  refine ⟨?_,Nat.lt_of_le_of_lt h1 (by decide)⟩
  show Value.int .i64 _=.int .i64 (sgn (s i))
  rw [sgn_small (Nat.lt_of_le_of_lt h1 (by decide))]
 ·cases h
theorem sar_sgn {n u:Nat} (hu:u<2 ^ 64):(sgn u).fdiv (2 ^ n)=sgn (sarN n u)∧sarN n u<2 ^ 64:=by
 have e:(2:Int) ^ n=((2 ^ n:Nat):Int):=by push_cast; rfl
 have hp:0<2 ^ n:=Nat.two_pow_pos n
 rw [e]
 unfold sarN
 by_cases h:u<2 ^ 63
 ·rw [if_pos h,sgn_small h,Int.fdiv_eq_ediv_of_nonneg _ (Int.natCast_nonneg _)]
  have h1:u / 2 ^ n≤u:=Nat.div_le_self _ _
  rw [sgn_small (by omega)]
  exact ⟨by norm_cast,by omega⟩
 ·rw [if_neg h]
  have h1:(2 ^ 64 - 1 - u) / 2 ^ n≤2 ^ 64 - 1 - u:=Nat.div_le_self _ _
  refine ⟨?_,Nat.lt_of_le_of_lt (Nat.sub_le _ _) (by decide)⟩
  have h2:sgn u=Int.negSucc (2 ^ 64 - 1 - u):=by
   unfold sgn
   rw [if_neg h,Int.negSucc_eq]
   omega
  rw [h2,Int.fdiv_eq_ediv_of_nonneg _ (Int.natCast_nonneg _),Int.negSucc_ediv _ (by exact_mod_cast hp)]
  unfold sgn
  rw [if_neg (by omega)]
  have h3:((2 ^ 64 - 1 - u:Nat):Int) / ((2 ^ n:Nat):Int)=(((2 ^ 64 - 1 - u) / 2 ^ n:Nat):Int):=by norm_cast
  show -(((2 ^ 64 - 1 - u:Nat):Int) / ((2 ^ n:Nat):Int)+1)=_
  rw [h3]
  generalize (2 ^ 64 - 1 - u) / 2 ^ n=q at h1 ⊢
  have h4:q≤18446744073709551615:=by omega
  have h5:((2 ^ 64 - 1 - q:Nat):Int)=18446744073709551615 - q:=by omega
  rw [h5]
  omega
def sbin (nx:Nat) (op:BinOp) (x y:A0):Option (AV × List Ex) :=
 match op,x,y with
 | .shl,x,.lit (.int _ n)=>match x.sword with
  | some a=>bif decide (0≤n) && decide (n<64) then some (.one (.sg nx),[.shl 64 n.toNat a]) else none
  | none=>none
 | .shr,x,.lit (.int _ n)=>match x.sword with
  | some a=>bif decide (0≤n) && decide (n<64) then some (.one (.sg nx),[.op 5 [.c n.toNat,a]]) else none
  | none=>none
 | op,x,y=>match x.sword,y.sword with
  | some a,some b=>match op with
   | .add=>some (.one (.sg nx),[.add 64 a b])
   | .sub=>some (.one (.sg nx),[.sub 64 a b])
   | .mul=>some (.one (.sg nx),[.mul 64 a b])
   | .and=>some (.one (.sg nx),[.and a b])
   | .eql=>some (.one (.bl nx),[.feq a b])
   | .neq=>some (.one (.bl nx),[.fne a b])
   | .lss=>some (.one (.bl nx),[.op 3 [a,b]])
   | .gtr=>some (.one (.bl nx),[.op 3 [b,a]])
   | _=>none
  | _,_=>match x.word .u8,y.word .u8 with
   | some a,some b=>match op with
    | .lss=>some (.one (.bl nx),[.op 4 [a,b]])
    | .geq=>some (.one (.bl nx),[.op 10 [b,a]])
    | _=>none
   | _,_=>none
theorem ofInt_sgn {x:Nat} (hx:x<2 ^ 64):(BitVec.ofInt IntKind.i64.bits (sgn x)).toNat=x:=by
 rw [BitVec.toNat_ofInt]
 have h:=sgn_mod x
 show (sgn x % ((2 ^ 64:Nat):Int)).toNat=x
 unfold sgn
 split <;> omega
theorem bool_of {p:Prop} [Decidable p] {n:Nat} (h:n=if p then 1 else 0):(decide p)=(n == 1)∧n≤1:=by
 by_cases hp:p
 ·rw [if_pos hp] at h; subst h; simp [hp]
 ·rw [if_neg hp] at h; subst h; simp [hp]
theorem sbin_rep {s:Nums} {β:Places} {nr nx:Nat} {op:BinOp} {x y:A0} {vx vy:Value} {av:AV} {l m:List Ex} (h:sbin nx op x y=some (av,l))
  (hx:x.rep s β nr vx) (hy:y.rep s β nr vy) (hH:Holds s (nx+l.length) (l ++ m)) (P:Program) (t:TypeId) (ox oy:Operand) :
  ∃ u,av.rep s β nr u∧∀ w:World,(do eqGuard op t ox oy vx vy; binOp op t vx vy).run P w=.ok u w:=by
 unfold sbin at h
 split at h
 ·rename_i k n
  split at h
  ·rename_i a ha
   obtain ⟨h1,h2⟩:=bif_some h
   cases h2
   simp only [Bool.and_eq_true,decide_eq_true_eq] at h1
   obtain ⟨n,rfl⟩:=Int.eq_ofNat_of_zero_le h1.1
   obtain ⟨rfl,hlt⟩:=sword_rep ha hx
   cases hy
   have he:s nx=a.val s*2 ^ n % 2 ^ 64:=holds_one hH
   refine ⟨.int .i64 (sgn (s nx)),⟨rfl,by rw [he]; exact Nat.mod_lt _ (by decide)⟩,fun w=>?_⟩
   have h0:¬ ((n:Int)<0):=by omega
   have hn:min n 64=n:=by omega
   simp only [Sem.run_bind,guard_int,Result.andThen,binOp,Op.shift,h0,if_false,Int.toNat_natCast,Sem.run_pure,show IntKind.i64.bits=64 from rfl,hn]
   congr 2
   refine wrap_sgn ?_
   rw [he,Int.natCast_emod,Int.natCast_mul]
   rw [show ((2 ^ n:Nat):Int)=2 ^ n by push_cast; rfl,show ((2 ^ 64:Nat):Int)=2 ^ 64 from rfl]
   have h3:=sgn_mod (a.val s)
   obtain ⟨q,hq⟩:=Int.dvd_of_emod_eq_zero h3
   have h4:sgn (a.val s)=a.val s+2 ^ 64*q:=by omega
   rw [h4,Int.add_mul,Int.mul_assoc,Int.add_mul_emod_self_left]
  ·cases h
 ·rename_i k n
  split at h
  ·rename_i a ha
   obtain ⟨h1,h2⟩:=bif_some h
   cases h2
   simp only [Bool.and_eq_true,decide_eq_true_eq] at h1
   obtain ⟨n,rfl⟩:=Int.eq_ofNat_of_zero_le h1.1
   obtain ⟨rfl,hlt⟩:=sword_rep ha hx
   cases hy
   have he:s nx=sarN n (a.val s):=holds_one hH
   obtain ⟨e1,e2⟩:=sar_sgn (n:=n) hlt
   refine ⟨.int .i64 (sgn (s nx)),⟨rfl,by rw [he]; exact e2⟩,fun w=>?_⟩
   have h0:¬ ((n:Int)<0):=by omega
   have hn:min n 64=n:=by omega
   simp only [Sem.run_bind,guard_int,Result.andThen,binOp,Op.shift,h0,if_false,Int.toNat_natCast,Sem.run_pure,show IntKind.i64.bits=64 from rfl,hn]
   rw [he,e1]
  ·cases h
 ·split at h
  ·rename_i a b ha hb
   obtain ⟨rfl,hla⟩:=sword_rep ha hx
   obtain ⟨rfl,hlb⟩:=sword_rep hb hy
   have m1:=sgn_mod (a.val s)
   have m2:=sgn_mod (b.val s)
   split at h
   ·cases h
    have he:s nx=(a.val s+b.val s) % 2 ^ 64:=holds_one hH
    refine ⟨.int .i64 (sgn (s nx)),⟨rfl,by rw [he]; exact Nat.mod_lt _ (by decide)⟩,fun w=>?_⟩
    simp only [Sem.run_bind,guard_int,Result.andThen,binOp,Op.intArith,ne_eq,not_true_eq_false,if_false,Sem.run_pure]
    congr 2
    exact wrap_sgn (by rw [he]; omega)
   ·cases h
    have he:s nx=(a.val s+(2 ^ 64 - b.val s)) % 2 ^ 64:=holds_one hH
    refine ⟨.int .i64 (sgn (s nx)),⟨rfl,by rw [he]; exact Nat.mod_lt _ (by decide)⟩,fun w=>?_⟩
    simp only [Sem.run_bind,guard_int,Result.andThen,binOp,Op.intArith,ne_eq,not_true_eq_false,if_false,Sem.run_pure]
    congr 2
    exact wrap_sgn (by rw [he]; omega)
   ·cases h
    have he:s nx=a.val s*b.val s % 2 ^ 64:=holds_one hH
    refine ⟨.int .i64 (sgn (s nx)),⟨rfl,by rw [he]; exact Nat.mod_lt _ (by decide)⟩,fun w=>?_⟩
    simp only [Sem.run_bind,guard_int,Result.andThen,binOp,Op.intArith,ne_eq,not_true_eq_false,if_false,Sem.run_pure]
    congr 2
    refine wrap_sgn ?_
    rw [he,Int.natCast_emod,Int.natCast_mul,show ((2 ^ 64:Nat):Int)=2 ^ 64 from rfl]
    obtain ⟨q,hq⟩:=Int.dvd_of_emod_eq_zero m1
    obtain ⟨q',hq'⟩:=Int.dvd_of_emod_eq_zero m2
    have h4:sgn (a.val s)=a.val s+2 ^ 64*q:=by omega
    have h5:sgn (b.val s)=b.val s+2 ^ 64*q':=by omega
    have h6:((a.val s:Int)+2 ^ 64*q)*(b.val s+2 ^ 64*q')=a.val s*b.val s+2 ^ 64*(q*b.val s+a.val s*q'+q*(2 ^ 64*q')):=by grind
    rw [h4,h5,h6,Int.add_mul_emod_self_left]
   ·cases h
    have he:s nx=a.val s &&& b.val s:=holds_one hH
    have hl:a.val s &&& b.val s<2 ^ 64:=Nat.and_lt_two_pow _ hlb
    refine ⟨.int .i64 (sgn (s nx)),⟨rfl,by rw [he]; exact hl⟩,fun w=>?_⟩
    simp only [Sem.run_bind,guard_int,Result.andThen,binOp,Op.intBits,ne_eq,not_true_eq_false,if_false,Sem.run_pure,BitVec.toNat_and,ofInt_sgn hla,ofInt_sgn hlb]
    congr 2
    exact wrap_sgn (by rw [he]; omega)
   ·cases h
    have he:s nx=if a.val s=b.val s then 1 else 0:=holds_one hH
    obtain ⟨e1,e2⟩:=bool_of he
    refine ⟨.bool (sgn (a.val s) == sgn (b.val s)),⟨?_,e2⟩,fun w=>?_⟩
    ·rw [← e1]
     congr 1
     by_cases e:a.val s=b.val s
     ·rw [e]; simp
     ·have:sgn (a.val s)≠sgn (b.val s):=fun h=>e (sgn_inj hla hlb h)
      simp [this,e]
    ·simp only [Sem.run_bind,guard_int,Result.andThen,binOp,Op.intCmp,ne_eq,not_true_eq_false,if_false,Sem.run_pure]
   ·cases h
    have he:s nx=if a.val s=b.val s then 0 else 1:=holds_one hH
    have he2:s nx=if ¬ a.val s=b.val s then 1 else 0:=by rw [he]; split <;> simp_all
    obtain ⟨e1,e2⟩:=bool_of he2
    refine ⟨.bool (sgn (a.val s) != sgn (b.val s)),⟨?_,e2⟩,fun w=>?_⟩
    ·rw [← e1]
     congr 1
     by_cases e:a.val s=b.val s
     ·rw [e]; simp
     ·have:sgn (a.val s)≠sgn (b.val s):=fun h=>e (sgn_inj hla hlb h)
      simp [this,e]
    ·simp only [Sem.run_bind,guard_int,Result.andThen,binOp,Op.intCmp,ne_eq,not_true_eq_false,if_false,Sem.run_pure]
   ·cases h
    have he:s nx=if sgn (a.val s)<sgn (b.val s) then 1 else 0:=holds_one hH
    obtain ⟨e1,e2⟩:=bool_of he
    refine ⟨.bool (decide (sgn (a.val s)<sgn (b.val s))),⟨by rw [e1],e2⟩,fun w=>?_⟩
    simp only [Sem.run_bind,guard_int,Result.andThen,binOp,Op.intCmp,ne_eq,not_true_eq_false,if_false,Sem.run_pure]
   ·cases h
    have he:s nx=if sgn (b.val s)<sgn (a.val s) then 1 else 0:=holds_one hH
    obtain ⟨e1,e2⟩:=bool_of he
    refine ⟨.bool (decide (sgn (b.val s)<sgn (a.val s))),⟨by rw [e1],e2⟩,fun w=>?_⟩
    simp only [Sem.run_bind,guard_int,Result.andThen,binOp,Op.intCmp,ne_eq,not_true_eq_false,if_false,Sem.run_pure]
   ·cases h
  ·split at h
   ·rename_i a b ha hb
    obtain ⟨rfl,hla⟩:=word_rep ha hx
    obtain ⟨rfl,hlb⟩:=word_rep hb hy
    split at h
    ·cases h
     have he:s nx=if a.val s<b.val s then 1 else 0:=holds_one hH
     obtain ⟨e1,e2⟩:=bool_of he
     refine ⟨.bool (decide (((a.val s:Nat):Int)<((b.val s:Nat):Int))),⟨?_,e2⟩,fun w=>?_⟩
     ·rw [← e1]; congr 1; simp
     ·simp only [Sem.run_bind,guard_int,Result.andThen,binOp,Op.intCmp,ne_eq,not_true_eq_false,if_false,Sem.run_pure]
    ·cases h
     have he:s nx=if b.val s≤a.val s then 1 else 0:=holds_one hH
     obtain ⟨e1,e2⟩:=bool_of he
     refine ⟨.bool (decide (((a.val s:Nat):Int) ≥ ((b.val s:Nat):Int))),⟨?_,e2⟩,fun w=>?_⟩
     ·rw [← e1]; congr 1; simp
     ·simp only [Sem.run_bind,guard_int,Result.andThen,binOp,Op.intCmp,ne_eq,not_true_eq_false,if_false,Sem.run_pure]
    ·cases h
   ·cases h
def sconv (nx:Nat) (k':IntKind) (x:A0):Option (AV × List Ex) :=
 match k',x.sword,x.word .u8,x.word .u64 with
 | .u64,some a,_,_=>some (.one (.num .u64 nx),[.low 64 a])
 | .u8,some a,_,_=>some (.one (.num .u8 nx),[.low 8 a])
 | .i64,none,some a,_=>some (.one (.sg nx),[.low 64 a])
 | .i64,none,none,some a=>some (.one (.sg nx),[.low 64 a])
 | _,_,_,_=>none
theorem sconv_rep {s:Nums} {β:Places} {nr nx:Nat} {k':IntKind} {x:A0} {vx:Value} {av:AV} {l m:List Ex} (h:sconv nx k' x=some (av,l))
  (hx:x.rep s β nr vx) (hH:Holds s (nx+l.length) (l ++ m)):∃ k z,vx=.int k z∧av.rep s β nr (.int k' (k'.wrap z)):=by
 unfold sconv at h
 split at h
 ·rename_i a ha
  cases h
  obtain ⟨rfl,hl⟩:=sword_rep ha hx
  have he:s nx=a.val s % 2 ^ 64:=holds_one hH
  have hm:=sgn_mod (a.val s)
  refine ⟨_,_,rfl,?_,by rw [he]; exact Nat.mod_lt _ (by decide)⟩
  rw [IntKind.wrap_u64,he]
  congr 1
  omega
 ·rename_i a ha
  cases h
  obtain ⟨rfl,hl⟩:=sword_rep ha hx
  have he:s nx=a.val s % 2 ^ 8:=holds_one hH
  have hm:=sgn_mod (a.val s)
  refine ⟨_,_,rfl,?_,by rw [he]; exact Nat.mod_lt _ (by decide)⟩
  rw [IntKind.wrap_u8,he]
  congr 1
  omega
 ·rename_i a _ ha
  cases h
  obtain ⟨rfl,hl⟩:=word_rep ha hx
  rw [show IntKind.u8.bits=8 from rfl] at hl
  have he:s nx=a.val s % 2 ^ 64:=holds_one hH
  refine ⟨_,_,rfl,?_,by rw [he]; exact Nat.mod_lt _ (by decide)⟩
  rw [wrap_sgn (n:=s nx) (by rw [he]; omega)]
 ·rename_i a _ _ ha
  cases h
  obtain ⟨rfl,hl⟩:=word_rep ha hx
  have he:s nx=a.val s % 2 ^ 64:=holds_one hH
  refine ⟨_,_,rfl,?_,by rw [he]; exact Nat.mod_lt _ (by decide)⟩
  rw [wrap_sgn (n:=s nx) (by rw [he]; omega)]
 ·cases h
def qWord (kind:TypeId→Option IntKind):Qx:=fun _ _ st op=>match op with
 | .binOp op _ x y _=>match st.ev x,st.ev y with
  | .one a,.one b=>sbin st.nx op a b
  | _,_=>none
 | .convert s d x=>match kind s,kind d,st.ev x with
  | some _,some k',.one a=>sconv st.nx k' a
  | _,_,_=>none
 | _=>none
theorem qWord_ok {P:Program} {kind:TypeId→Option IntKind} (hk:∀ t k,kind t=some k→P.underlying t=some (.int k)):QextOk P (qWord kind):=by
 intro s β F L st a o av l m hd h ht hH w0 hw0
 unfold qWord at h
 split at h
 ·rename_i op t x y t' ho
  split at h
  ·rename_i p q hp hq
   have hx:=ev_rep ht x
   have hy:=ev_rep ht y
   rw [hp] at hx
   rw [hq] at hy
   obtain ⟨u,hu,hw⟩:=sbin_rep h hx hy hH P t x y
   refine ⟨u,hu,fun w _=>?_⟩
   have:=hw w
   simp only [execOp,ho,Sem.run_bind] at this ⊢
   rw [this]
   rfl
  ·cases h
 ·rename_i sr ds x ho
  split at h
  ·rename_i k k' p h1 h2 hp
   have hx:=ev_rep ht x
   rw [hp] at hx
   obtain ⟨k0,z,hz,hr⟩:=sconv_rep h hx hH
   refine ⟨_,hr,fun w _=>?_⟩
   simp only [execOp,ho,hz,convert,Sem.run_bind,run_underlying (hk _ _ h1),run_underlying (hk _ _ h2),Result.andThen,Conv.intToInt,Sem.run_pure]
  ·cases h
 ·cases h
end P224
/- More operations of the executor: slices, strings, comparisons with nil, parts of several results. -/
namespace P224
open Go Go.RowKit
def A0.asSl:A0→Option (Nat × Nat × Nat)
 | .slc r o n c=>bif decide (n≤c) then some (r,o,n) else none
 | .sl r o n=>some (r,o,n)
 | .sv r o n _=>some (r,o,n)
 | _=>none
theorem asSl_rep {s:Nums} {β:Places} {nr:Nat} {a:A0} {r o n:Nat} {v:Value} (h:a.asSl=some (r,o,n)) (hr:a.rep s β nr v):(∃ c,v=.slice (some (at_ β r o)) n c∧n≤c)∧r<nr:=by
 cases a with
 | slc r' o' n' c =>
  obtain ⟨h1,h2⟩:=bif_some h
  cases h2
  exact ⟨⟨c,hr.1,of_decide_eq_true h1⟩,hr.2⟩
 | sl r' o' n'=>cases h; obtain ⟨c,hc,hv,hl⟩:=hr; exact ⟨⟨c,hv,hc⟩,hl⟩
 | sv r' o' n' i=>cases h; exact ⟨⟨s i,hr.1,hr.2.1⟩,hr.2.2⟩
 | _=>cases h
def bnd (st:St):Option Operand→Option (Option Nat)
 | none=>some none
 | some x=>match st.ev x with
  | .one (.lit (.int _ n))=>bif decide (0≤n) then some (some n.toNat) else none
  | _=>none
structure MoreTab where
 arr:TypeId→Option (Nat × Nat)
 slc:TypeId→Option Nat
 ifc:TypeId→Bool
 str:TypeId→Bool
structure MoreTab.Ok (P:Program) (T:MoreTab):Prop where
 arr:∀ t n z,T.arr t=some (n,z)→∃ e i,P.underlying t=some (.array n e)∧P.info? e=some i∧i.size=z
 slc:∀ t z,T.slc t=some z→∃ e i,P.underlying t=some (.slice e)∧P.info? e=some i∧i.size=z
 ifc:∀ t,T.ifc t=true→P.underlying t=some (.interface (P.methodsAt t))
 str:∀ t,T.str t=true→P.underlying t=some .string
def tupAt:List AV→Nat→Option AV
 | [],_=>none
 | x :: _,0=>some x
 | _ :: l,i+1=>tupAt l i
theorem tupAt_rep {s:Nums} {β:Places} {n:Nat}:∀ {l:List AV} {vs:List Value} {i:Nat} {x:AV},AV.repL s β n l vs→tupAt l i=some x→∃ v,vs[i]?=some v∧x.rep s β n v
 | _ :: _,v :: _,0,_,h,hi=>by cases hi; exact ⟨v,rfl,h.1⟩
 | _ :: l,_ :: vs,i+1,x,h,hi=>tupAt_rep (l:=l) (vs:=vs) (i:=i) (x:=x) h.2 hi
 | _ :: _,[],_,_,h,_=>h.elim
def qMore (T:MoreTab):Qx:=fun _ _ st op=>match op with
 | .call c=>match c.callee,c.args.toList,c.argTypes.toList with
  | .builtin .len,[x],[t]=>match st.ev x with
   | .one (.lit (.string b))=>bif T.str t then some (.one (.lit (.int .i64 b.size)),[]) else none
   | .one (.sy _ i)=>match T.slc t with
    | some _=>some (.one (.sg i),[])
    | none=>none
   | .one a=>match a.asSl,T.slc t with
    | some (_,_,n),some _=>bif decide (n<1000000) then some (.one (.lit (.int .i64 n)),[]) else none
    | _,_=>none
   | _=>none
  | _,_,_=>none
 | .indexAddr t x i=>match st.ev x,st.ev i,T.slc t with
  | .one a,.one (.lit (.int _ n)),some sz=>match a.asSl with
   | some (r,o,len)=>bif decide (0≤n) && decide (n<len) then some (.one (.ptr r (o+n.toNat*sz)),[]) else none
   | none=>none
  | _,_,_=>none
 | .slice t x lo hi none=>match st.ev x,bnd st lo,bnd st hi with
  | .one (.ptr r o),some l,some h=>match T.arr t with
   | some (n,sz)=>bif decide (l.getD 0≤h.getD n) && decide (h.getD n≤n) && decide (l.getD 0<n) then some (.one (.slc r (o+l.getD 0*sz) (h.getD n - l.getD 0) (n - l.getD 0)),[]) else none
   | none=>none
  | .one (.slc r o n c),some l,some h=>match T.slc t with
   | some sz=>bif decide (l.getD 0≤h.getD n) && decide (h.getD n≤c) && decide (l.getD 0<c) then some (.one (.slc r (o+l.getD 0*sz) (h.getD n - l.getD 0) (c - l.getD 0)),[]) else none
   | none=>none
  | .one a,some l,some h=>match a with
   | .sl r o n | .sv r o n _=>match T.slc t with
    | some sz=>bif decide (l.getD 0<h.getD n) && decide (h.getD n≤n) then some (.one (.sl r (o+l.getD 0*sz) (h.getD n - l.getD 0)),[]) else none
    | none=>none
   | _=>none
  | _,_,_=>none
 | .binOp .eql t x (.const (.slice none 0 0)) _=>match st.ev x,T.slc t with
  | .one a,some _=>match a.asSl with
   | some _=>some (.one (.lit (.bool false)),[])
   | none=>none
  | _,_=>none
 | .binOp .neq t x (.const (.slice none 0 0)) _=>match st.ev x,T.slc t with
  | .one a,some _=>match a.asSl with
   | some _=>some (.one (.lit (.bool true)),[])
   | none=>none
  | _,_=>none
 | .binOp .eql t x (.const .nilIface) _=>match st.ev x,T.ifc t with
  | .one (.lit .nilIface),true=>some (.one (.lit (.bool true)),[])
  | .one .err,true=>some (.one (.lit (.bool false)),[])
  | _,_=>none
 | .binOp .neq t x (.const .nilIface) _=>match st.ev x,T.ifc t with
  | .one (.lit .nilIface),true=>some (.one (.lit (.bool false)),[])
  | .one .err,true=>some (.one (.lit (.bool true)),[])
  | _,_=>none
 | .extract x i=>match st.ev x with
  | .tup l=>match tupAt l i with
   | some v=>some (v,[])
   | none=>none
  | _=>none
 | .index t x i=>match st.ev x,st.ev i,T.str t with
  | .one (.lit (.string b)),.one (.lit (.int _ n)),true=>bif decide (0≤n) then (match b[n.toNat]? with
   | some y=>some (.one (.lit (.int .u8 y.toNat)),[])
   | none=>none) else none
  | _,_,_=>none
 | _=>none
theorem run_bound {P:Program} {k:IntKind} {n y:Nat} {code:BoundsCode} (h:n≤y) (w:World):(Instr.sliceBound (.int k (n:Int)) y code).run P w=.ok n w:=by
 have h1:(0:Int)≤n∧(n:Int)≤y:=by omega
 simp only [Instr.sliceBound,asIntOf,Sem.run_bind,Sem.run_pure,Result.andThen,h1,and_self,if_true,Int.toNat_natCast]
theorem bnd_rep {s:Nums} {β:Places} {st:St} {a:Act} (ht:TmOk s β st.nr st.tm a) {lo:Option Operand} {l:Option Nat} (h:bnd st lo=some l) :
  (lo.map a.eval=none∧l=none)∨∃ k n,lo.map a.eval=some (.int k ((n:Nat):Int))∧l=some n:=by
 cases lo with
 | none=>cases h; exact .inl ⟨rfl,rfl⟩
 | some x =>
  simp only [bnd] at h
  split at h
  ·rename_i k n hx
   obtain ⟨h0,h2⟩:=bif_some h
   cases h2
   obtain ⟨n,rfl⟩:=Int.eq_ofNat_of_zero_le (of_decide_eq_true h0)
   have hr:=ev_rep ht x
   rw [hx] at hr
   have hr':a.eval x=.int k (n:Int):=hr
   exact .inr ⟨k,n,by rw [Option.map_some,hr'],rfl⟩
  ·cases h
theorem run_bounds {P:Program} {s:Nums} {β:Places} {st:St} {a:Act} (ht:TmOk s β st.nr st.tm a) {lo hi:Option Operand} {l h:Option Nat} (hl:bnd st lo=some l) (hh:bnd st hi=some h) (isS:Bool) (n c:Nat)
  (h1:l.getD 0≤h.getD n) (h2:h.getD n≤c) (w:World) :
  (Instr.sliceBounds isS n c (lo.map a.eval) (hi.map a.eval) none).run P w=.ok (l.getD 0,h.getD n,c) w:=by
 rcases bnd_rep ht hl with ⟨e1,rfl⟩|⟨k,x,e1,rfl⟩ <;> rcases bnd_rep ht hh with ⟨e2,rfl⟩|⟨k',y,e2,rfl⟩ <;> rw [e1,e2] <;> simp only [Option.getD_none,Option.getD_some] at h1 h2 ⊢
 ·simp only [Instr.sliceBounds,Sem.run_bind,Sem.run_pure,Result.andThen]
 ·simp only [Instr.sliceBounds,Sem.run_bind,Sem.run_pure,Result.andThen,run_bound h2]
 ·simp only [Instr.sliceBounds,Sem.run_bind,Sem.run_pure,Result.andThen,run_bound h1]
 ·simp only [Instr.sliceBounds,Sem.run_bind,Sem.run_pure,Result.andThen,run_bound h2,run_bound h1]
theorem run_slice_slice {P:Program} {s:Nums} {β:Places} {st:St} {a:Act} (ht:TmOk s β st.nr st.tm a) {lo hi:Option Operand} {l h:Option Nat} (hl:bnd st lo=some l) (hh:bnd st hi=some h) {t e:TypeId} {i:TypeInfo}
  (hu:P.underlying t=some (.slice e)) (hi':P.info? e=some i) (A:Addr) (n c:Nat) (h1:l.getD 0≤h.getD n) (h2:h.getD n≤c) (h3:l.getD 0<c) (w:World) :
  (Instr.sliceAt t (.slice (some A) n c) (lo.map a.eval) (hi.map a.eval) none).run P w=.ok (.slice (some (A.add (l.getD 0*i.size))) (h.getD n - l.getD 0) (c - l.getD 0)) w:=by
 have hne:¬ c=l.getD 0:=by omega
 simp only [Instr.sliceAt,Instr.slice,Sem.run_bind,run_underlying hu,Result.andThen,run_bounds ht hl hh true n c h1 h2,run_size hi',Sem.run_pure,if_neg hne,Option.map_some]
theorem qMore_ok {P:Program} {T:MoreTab} (hT:T.Ok P):QextOk P (qMore T):=by
 intro s β F L st a o av l m hd h ht hH w0 hw0
 unfold qMore at h
 split at h
 ·rename_i c ho
  split at h
  ·rename_i x t hcal hargs htys
   have hargs':c.args=#[x]:=by rw [← Array.toList_inj]; exact hargs
   have htys':c.argTypes=#[t]:=by rw [← Array.toList_inj]; exact htys
   have hr:=ev_rep ht x
   split at h
   ·rename_i b hx
    obtain ⟨hs,h2⟩:=bif_some h
    cases h2
    rw [hx] at hr
    have hr':a.eval x=.string b:=hr
    refine ⟨_,rfl,fun w _=>?_⟩
    simp only [execOp,ho,resolve,hcal,hargs',htys',Sem.run_bind,Sem.run_pure,Result.andThen,invoke,builtin,Builtin.len_,List.map_toArray,List.map_cons,List.map_nil,List.getElem?_toArray,List.getElem?_cons_zero,run_underlying (hT.str _ hs),hr']
    rfl
   ·rename_i q i hx
    split at h
    ·rename_i z hz
     cases h
     rw [hx] at hr
     obtain ⟨hv,_,hs,hs2⟩:=hr
     obtain ⟨e,inf,h1,h2,h3⟩:=hT.slc _ _ hz
     have hsg:sgn (s i)=(s i:Int):=by unfold sgn; rw [if_pos hs]
     refine ⟨.int .i64 (s i:Int),⟨by rw [hsg],by omega⟩,fun w _=>?_⟩
     obtain ⟨_,h00⟩:=hs2
     rw [syV] at hv
     split at hv
     rotate_left
     ·simp only [execOp,ho,resolve,hcal,hargs',htys',Sem.run_bind,Sem.run_pure,Result.andThen,invoke,builtin,Builtin.len_,List.map_toArray,List.map_cons,List.map_nil,List.getElem?_toArray,List.getElem?_cons_zero,run_underlying h1,hv]
      rfl
     ·rename_i h0
      simp only [execOp,ho,resolve,hcal,hargs',htys',Sem.run_bind,Sem.run_pure,Result.andThen,invoke,builtin,Builtin.len_,List.map_toArray,List.map_cons,List.map_nil,List.getElem?_toArray,List.getElem?_cons_zero,run_underlying h1,hv,h00 h0]
      rfl
    ·cases h
   ·rename_i y hne hne2 hx
    split at h
    ·rename_i r d n z hsl hz
     obtain ⟨hlt,h2⟩:=bif_some h
     cases h2
     rw [hx] at hr
     obtain ⟨⟨cap,hv,_⟩,_⟩:=asSl_rep hsl hr
     obtain ⟨e,inf,h1,h2,h3⟩:=hT.slc _ _ hz
     refine ⟨.int .i64 n,rfl,fun w _=>?_⟩
     simp only [execOp,ho,resolve,hcal,hargs',htys',Sem.run_bind,Sem.run_pure,Result.andThen,invoke,builtin,Builtin.len_,List.map_toArray,List.map_cons,List.map_nil,List.getElem?_toArray,List.getElem?_cons_zero,run_underlying h1,hv]
     rfl
    ·cases h
   ·cases h
  ·cases h
 ·rename_i t x i ho
  split at h
  ·rename_i y k n sz hx hi hz
   split at h
   ·rename_i r d len hsl
    obtain ⟨hd',h2⟩:=bif_some h
    cases h2
    simp only [Bool.and_eq_true,decide_eq_true_eq] at hd'
    have hr:=ev_rep ht x
    rw [hx] at hr
    have hi':=ev_rep ht i
    rw [hi] at hi'
    obtain ⟨⟨cap,hv,_⟩,hlt⟩:=asSl_rep hsl hr
    obtain ⟨e,inf,h1,h2,h3⟩:=hT.slc _ _ hz
    refine ⟨.pointer (some (at_ β r (d+n.toNat*sz))),⟨rfl,hlt⟩,fun w _=>?_⟩
    have hi'':a.eval i=.int k n:=hi'
    simp only [execOp,ho,hv,hi'',Instr.indexAt,asIntOf,Sem.run_bind,Sem.run_pure,run_underlying h1,Result.andThen,run_size h2,hd',and_self,if_true,h3,at_add]
   ·cases h
  ·cases h
 ·rename_i t x lo hi ho
  split at h
  ·rename_i r d l h' hx hl hh
   split at h
   ·rename_i n sz hf
    obtain ⟨hd',h2⟩:=bif_some h
    cases h2
    simp only [Bool.and_eq_true,decide_eq_true_eq] at hd'
    obtain ⟨⟨g1,g2⟩,g3⟩:=hd'
    have hr:=ev_rep ht x
    rw [hx] at hr
    obtain ⟨e,inf,h1,h2,h3⟩:=hT.arr _ _ _ hf
    refine ⟨_,⟨rfl,hr.2⟩,fun w _=>?_⟩
    have hne:¬ n=l.getD 0:=by omega
    simp only [execOp,ho,hr.1,Instr.sliceAt,Instr.sureAddr,Option.map_none,Sem.run_bind,Sem.run_pure,run_underlying h1,Result.andThen,run_bounds ht hl hh false n n g1 g2,run_size h2,if_neg hne,at_add,h3]
   ·cases h
  ·rename_i r d n c l h' hx hl hh
   split at h
   ·rename_i sz hz
    obtain ⟨hd',h2⟩:=bif_some h
    cases h2
    simp only [Bool.and_eq_true,decide_eq_true_eq] at hd'
    obtain ⟨⟨g1,g2⟩,g3⟩:=hd'
    have hr:=ev_rep ht x
    rw [hx] at hr
    obtain ⟨e,inf,h1,h2,h3⟩:=hT.slc _ _ hz
    refine ⟨_,⟨rfl,hr.2⟩,fun w _=>?_⟩
    simp only [execOp,ho,hr.1,Option.map_none,Sem.run_bind,run_slice_slice ht hl hh h1 h2 _ n c g1 g2 g3,Result.andThen,Sem.run_pure,at_add,h3]
   ·cases h
  ·rename_i y l h' hne1 hne2 hx hl hh
   have main:∀ r d n,(∃ cap,n≤cap∧a.eval x=.slice (some (at_ β r d)) n cap∧r<st.nr)→∀ sz,T.slc t=some sz→l.getD 0<h'.getD n→h'.getD n≤n →
     ∃ u,(AV.one (.sl r (d+l.getD 0*sz) (h'.getD n - l.getD 0))).rep s β st.nr u∧∀ w,Reads s β st.nr L st.mem w→(execOp a.eval o).run P w=.ok (.value u) w:=by
    intro r d n ⟨cap,hcap,hv,hlt⟩ sz hz g1 g2
    obtain ⟨e,inf,h1,h2,h3⟩:=hT.slc _ _ hz
    refine ⟨.slice (some (at_ β r (d+l.getD 0*sz))) (h'.getD n - l.getD 0) (cap - l.getD 0),⟨cap - l.getD 0,by omega,rfl,hlt⟩,fun w _=>?_⟩
    simp only [execOp,ho,hv,Option.map_none,Sem.run_bind,run_slice_slice ht hl hh h1 h2 _ n cap (by omega) (by omega) (by omega),Result.andThen,Sem.run_pure,at_add,h3]
   have hr:=ev_rep ht x
   rw [hx] at hr
   split at h
   ·rename_i r d n
    split at h
    ·rename_i sz hz
     obtain ⟨hd',h2⟩:=bif_some h
     cases h2
     simp only [Bool.and_eq_true,decide_eq_true_eq] at hd'
     exact main r d n hr sz hz hd'.1 hd'.2
    ·cases h
   ·rename_i r d n i
    split at h
    ·rename_i sz hz
     obtain ⟨hd',h2⟩:=bif_some h
     cases h2
     simp only [Bool.and_eq_true,decide_eq_true_eq] at hd'
     obtain ⟨v1,v2,v3⟩:=hr
     exact main r d n ⟨s i,v2,v1,v3⟩ sz hz hd'.1 hd'.2
    ·cases h
   ·cases h
  ·cases h
 ·rename_i t x t' ho
  split at h
  ·rename_i y z hx hz
   split at h
   ·rename_i q hsl
    cases h
    have hr:=ev_rep ht x
    rw [hx] at hr
    obtain ⟨⟨cap,hv,_⟩,_⟩:=asSl_rep (r:=q.1) (o:=q.2.1) (n:=q.2.2) hsl hr
    obtain ⟨e,inf,h1,h2,h3⟩:=hT.slc _ _ hz
    refine ⟨.bool false,rfl,fun w _=>?_⟩
    have ec:a.eval (.const (.slice none 0 0))=.slice none 0 0:=rfl
    have he:=run_equal_slice_nil (P:=P) w t e (some (at_ β q.1 q.2.1)) q.2.2 cap h1
    simp [execOp,ho,hv,ec,eqGuard,binOp,Result.andThen,he]
   ·cases h
  ·cases h
 ·rename_i t x t' ho
  split at h
  ·rename_i y z hx hz
   split at h
   ·rename_i q hsl
    cases h
    have hr:=ev_rep ht x
    rw [hx] at hr
    obtain ⟨⟨cap,hv,_⟩,_⟩:=asSl_rep (r:=q.1) (o:=q.2.1) (n:=q.2.2) hsl hr
    obtain ⟨e,inf,h1,h2,h3⟩:=hT.slc _ _ hz
    refine ⟨.bool true,rfl,fun w _=>?_⟩
    have ec:a.eval (.const (.slice none 0 0))=.slice none 0 0:=rfl
    have he:=run_equal_slice_nil (P:=P) w t e (some (at_ β q.1 q.2.1)) q.2.2 cap h1
    simp [execOp,ho,hv,ec,eqGuard,binOp,Result.andThen,he]
   ·cases h
  ·cases h
 ·rename_i t x t' ho
  split at h
  ·rename_i hx hz
   cases h
   have hr:=ev_rep ht x
   rw [hx] at hr
   have hr':a.eval x=.nilIface:=hr
   refine ⟨.bool true,rfl,fun w _=>?_⟩
   have ec:a.eval (.const .nilIface)=.nilIface:=rfl
   simp [execOp,ho,hr',ec,eqGuard,binOp,Result.andThen,run_equal_nil_nil w t (hT.ifc _ hz)]
  ·rename_i hx hz
   cases h
   have hr:=ev_rep ht x
   rw [hx] at hr
   obtain ⟨ty,u,hv⟩:=hr
   refine ⟨.bool false,rfl,fun w _=>?_⟩
   have ec:a.eval (.const .nilIface)=.nilIface:=rfl
   simp [execOp,ho,hv,ec,eqGuard,binOp,Result.andThen,run_equal_held_nil w t ty u (hT.ifc _ hz)]
  ·cases h
 ·rename_i t x t' ho
  split at h
  ·rename_i hx hz
   cases h
   have hr:=ev_rep ht x
   rw [hx] at hr
   have hr':a.eval x=.nilIface:=hr
   refine ⟨.bool false,rfl,fun w _=>?_⟩
   have ec:a.eval (.const .nilIface)=.nilIface:=rfl
   simp [execOp,ho,hr',ec,eqGuard,binOp,Result.andThen,run_equal_nil_nil w t (hT.ifc _ hz)]
  ·rename_i hx hz
   cases h
   have hr:=ev_rep ht x
   rw [hx] at hr
   obtain ⟨ty,u,hv⟩:=hr
   refine ⟨.bool true,rfl,fun w _=>?_⟩
   have ec:a.eval (.const .nilIface)=.nilIface:=rfl
   simp [execOp,ho,hv,ec,eqGuard,binOp,Result.andThen,run_equal_held_nil w t ty u (hT.ifc _ hz)]
  ·cases h
 ·rename_i x i ho
  split at h
  ·rename_i l' hx
   split at h
   ·rename_i v hv
    cases h
    have hr:=ev_rep ht x
    rw [hx] at hr
    obtain ⟨vs,hv',hl⟩:=hr
    obtain ⟨u,hu,hr'⟩:=tupAt_rep hl hv
    refine ⟨u,hr',fun w _=>?_⟩
    simp only [execOp,ho,hv',Instr.extract,Sem.run_bind,List.getElem?_toArray,hu,Sem.run_pure,Result.andThen]
   ·cases h
  ·cases h
 ·rename_i t x i ho
  split at h
  ·rename_i b k n hx hi hs
   obtain ⟨h0,h2⟩:=bif_some h
   obtain ⟨n,rfl⟩:=Int.eq_ofNat_of_zero_le (of_decide_eq_true h0)
   split at h2
   ·rename_i y hy
    cases h2
    have hr:=ev_rep ht x
    rw [hx] at hr
    have hr':a.eval x=.string b:=hr
    have hi':=ev_rep ht i
    rw [hi] at hi'
    have hi'':a.eval i=.int k (n:Int):=hi'
    refine ⟨_,rfl,fun w _=>?_⟩
    rw [Int.toNat_natCast] at hy
    simp only [execOp,ho,hr',hi'',Instr.index,asIntOf,Sem.run_bind,Sem.run_pure,Result.andThen,run_underlying (hT.str _ hs),Int.natCast_nonneg,if_true,Int.toNat_natCast,hy]
   ·cases h2
  ·cases h
 ·cases h
end P224
/- More operations of the executor: calls by contract, calls in place, slices that are built, appended to, copied. -/
namespace P224
open Go Go.RowKit
set_option linter.unusedVariables false
abbrev X:=Fix→St→List AV→Option (AV × St)
def AVs (s:Nums) (β:Places) (n:Nat) (args:List AV) (vals:List Value):Prop :=
 vals.length=args.length∧∀ (j:Nat) (x:AV) (v:Value),args[j]?=some x→vals[j]?=some v→x.rep s β n v
def XOk (P:Program) (f:FuncId) (g:X):Prop :=
 (∀ {F:Fix} {st st':St} {args:List AV} {av:AV},g F st args=some (av,st')→Grows st st') ∧
 ∀ {s:Nums} {β:Places} {F:Fix} {w0:World} {st st':St} {a:Act} {w:World} {args:List AV} {vals:List Value} {av:AV},Rel F s β w0 st a w→g F st args=some (av,st')→AVs s β st.nr args vals→Holds s st'.nx st'.exs →
  Meets P f vals.toArray w fun v w'=>After F s β w0 a st st' av v w'
def findX (t:Nat):List (Nat × X)→Option X
 | []=>none
 | (k,x) :: l=>bif k == t then some x else findX t l
theorem findX_mem {t:Nat} {x:X}:∀ {l:List (Nat × X)},findX t l=some x→(t,x) ∈ l
 | (k,y) :: l,h=>by
  rw [findX] at h
  cases hb:(k == t) with
  | true =>
   rw [hb,cond_true] at h
   cases h
   rw [beq_iff_eq.1 hb]
   exact List.mem_cons_self
  | false =>
   rw [hb,cond_false] at h
   exact List.mem_cons_of_mem _ (findX_mem h)
def lCalls (gs:List (Nat × X)):Lx:=fun F st op=>match op with
 | .call c=>match c.callee with
  | .value (.func f)=>match findX f gs with
   | some g=>g F st (c.args.toList.map st.ev)
   | none=>none
  | _=>none
 | _=>none
section
variable {P:Program}
theorem call_wp {s:Nums} {a:Act} {w:World} {o:Oper} {c:Call} {f:FuncId} (ho:o.op=.call c) (hcal:c.callee=.value (.func f)) {R:Value→World→Prop} (hm:Meets P f (c.args.toList.map a.eval).toArray w R)
  {next:Act→World→Prop} {Q:Exit→Act→World→Prop} (hn:∀ v w',R v w'→next (a.put o.dst v) w'):o.wp P a w next Q:=by
 have hrun:(execOp a.eval o).run P w=(callFunc f (c.args.toList.map a.eval).toArray).run P w:=by
  have e1:c.args.map a.eval=(c.args.toList.map a.eval).toArray:=by
   rw [← Array.toList_map]
  simp only [execOp,ho,resolve,hcal,Act.eval,Deferred.ofValue,Sem.run_bind,Sem.run_pure,Result.andThen,invoke,Array.empty_append,Array.append_empty,e1]
 unfold Oper.wp
 rw [hrun]
 exact hm o a next Q hn
theorem evs_rep {s:Nums} {β:Places} {st:St} {a:Act} (ht:TmOk s β st.nr st.tm a) (l:List Operand):AVs s β st.nr (l.map st.ev) (l.map a.eval):=by
 refine ⟨by simp,fun j x v hx hv=>?_⟩
 rw [List.getElem?_map] at hx hv
 cases hj:l[j]? with
 | none=>rw [hj] at hx; cases hx
 | some y =>
  rw [hj] at hx hv
  cases hx
  cases hv
  exact ev_rep ht y
theorem lCalls_ok {gs:List (Nat × X)} (h:∀ f g,(f,g) ∈ gs→XOk P f g):LextOk P (lCalls gs):=by
 refine ⟨fun hq=>?_,fun hr hq hH=>?_⟩
 ·unfold lCalls at hq
  split at hq
  ·split at hq
   ·split at hq
    ·rename_i g hg
     exact (h _ _ (findX_mem hg)).1 hq
    ·cases hq
   ·cases hq
  ·cases hq
 ·intro next Q hn
  rename_i s β F w0 st st' a w o av
  unfold lCalls at hq
  split at hq
  ·rename_i c ho
   split at hq
   ·rename_i f hcal
    split at hq
    ·rename_i g hg
     exact call_wp (s:=s) ho hcal ((h _ _ (findX_mem hg)).2 hr hq (evs_rep hr.tm _) hH) hn
    ·cases hq
   ·cases hq
  ·cases hq
def resOne (T:Tab) (st:St):ResultVar→Option AV
 | .tmp t=>some ((st.tm.get t).getD (.one .any))
 | .cell t ty=>match st.tm.get t with
  | some (.one (.ptr r o))=>match T.var ty with
   | some (true,n)=>match cellsAt st.mem r o n with
    | some l=>bif l.all definite then some (.agg l) else none
    | none=>none
   | _=>none
  | _=>none
def resAll (T:Tab) (st:St):List ResultVar→Option (List AV)
 | []=>some []
 | x :: l=>match resOne T st x,resAll T st l with
  | some y,some m=>some (y :: m)
  | _,_=>none
def resAV:List AV→AV
 | [x]=>x
 | l=>.tup l
def inlX (T:Tab) (fuel:Nat) (fn:Func):X:=fun F st args =>
 match fn.body with
 | none=>none
 | some code=>bif decide (args.length≤fn.ntmps) && decide (args.length<4095) then
   match run T { F with nt:=fn.ntmps } fuel code { st with tm:=tmOf 0 args .nil } with
   | some (.normal,st')=>match resAll T st' fn.results.toList with
    | some l=>some (resAV l,{ st' with tm:=st.tm })
    | none=>none
   | some (.ret,st')=>match resAll T st' fn.results.toList with
    | some l=>some (resAV l,{ st' with tm:=st.tm })
    | none=>none
   | _=>none
  else none
def resSpec (tmps:Array Value):ResultVar→Sem Value
 | .tmp t=>pure (tmps.getD t undef)
 | .cell a t=>do loadVar t (← asAddr (tmps.getD a undef))
theorem results_eq (fn:Func) (tmps:Array Value):results fn tmps=(do
  let vs ← fn.results.mapM (resSpec tmps)
  pure (if h:vs.size=1 then vs[0] else .tuple vs)):=by
 unfold results
 have:(fun x=>match x with | .tmp t=>pure (tmps.getD t undef) | .cell a t=>(do loadVar t (← asAddr (tmps.getD a undef)):Sem Value))=resSpec tmps:=by
  funext x
  cases x <;> rfl
 rw [← this]
 rfl
variable {T:Tab} {s:Nums} {β:Places} {F:Fix} {w0:World} {st:St} {a:Act} {w:World}
theorem resOne_run (hT:T.Ok P) (h:Rel F s β w0 st a w) {x:ResultVar} {y:AV} (hx:resOne T st x=some y):∃ v,(resSpec a.tmps x).run P w=.ok v w∧y.rep s β st.nr v:=by
 cases x with
 | tmp t =>
  cases hx
  exact ⟨a.tmps.getD t undef,by simp only [resSpec,Sem.run_pure],ev_rep h.tm (.tmp t)⟩
 | cell t ty =>
  simp only [resOne] at hx
  split at hx
  ·rename_i r o ht
   split at hx
   ·rename_i n hv
    split at hx
    ·rename_i l hl
     obtain ⟨hd,h2⟩:=bif_some hx
     cases h2
     have hp:=h.tm t _ ht
     obtain ⟨hag,i,hi,hsz⟩:=hT.var _ _ _ hv
     obtain ⟨k,hk,hlen,hle,hj⟩:=cellsAt_ok (nr:=0) hl
     obtain ⟨_,hc⟩:=h.mem r k hk
     have hcell:∀ j x,(l.map (A0.conc s β))[j]?=some x→w.cell? ((at_ β r o).add (0+j))=some x:=by
      intro j x hx
      rw [List.getElem?_map] at hx
      cases hlj:l[j]? with
      | none=>rw [hlj] at hx; cases hx
      | some y =>
       rw [hlj] at hx
       cases hx
       have hjn:j<n:=by
        have:=(List.getElem?_eq_some_iff.1 hlj).1
        omega
       obtain ⟨v,h1,h2⟩:=hc (o+j) y (by rw [← hj j hjn]; exact hlj)
       rw [at_add,Nat.zero_add,h1,rep_conc (List.all_eq_true.1 hd y (List.mem_of_getElem? hlj)) h2]
     have hload:=load_cells (P:=P) (w:=w) (a:=at_ β r o) (l.map (A0.conc s β)) 0 #[] hcell
     rw [List.length_map,hlen] at hload
     refine ⟨.agg (l.map (A0.conc s β)).toArray,?_,⟨_,rfl,by simp,fun j x v hx hv=>?_⟩⟩
     ·simp only [resSpec,hp.1,asAddr,loadVar,loadCells,Sem.run_bind,Sem.run_pure,Result.andThen,hag,if_true,run_size hi,hsz,hload,Array.empty_append]
     ·rw [List.getElem?_map,hx] at hv
      cases hv
      have hjn:j<n:=by
       have:=(List.getElem?_eq_some_iff.1 hx).1
       omega
      obtain ⟨v,h1,h2⟩:=hc (o+j) x (by rw [← hj j hjn]; exact hx)
      rw [← rep_conc (List.all_eq_true.1 hd x (List.mem_of_getElem? hx)) h2]
      exact h2
    ·cases hx
   ·cases hx
  ·cases hx
theorem resAll_run (hT:T.Ok P) (h:Rel F s β w0 st a w):∀ {l:List ResultVar} {avs:List AV},resAll T st l=some avs→∃ vs,(l.mapM (resSpec a.tmps)).run P w=.ok vs w∧AV.repL s β st.nr avs vs
 | [],avs,hx=>by
  cases hx
  exact ⟨[],by simp only [List.mapM_nil,Sem.run_pure],trivial⟩
 | x :: l,avs,hx=>by
  simp only [resAll] at hx
  split at hx
  ·rename_i y m hy hm
   cases hx
   obtain ⟨v,h1,h2⟩:=resOne_run hT h hy
   obtain ⟨vs,h3,h4⟩:=resAll_run hT h hm
   refine ⟨v :: vs,?_,⟨h2,h4⟩⟩
   simp only [List.mapM_cons,Sem.run_bind,h1,Result.andThen,h3,Sem.run_pure]
  ·cases hx
theorem results_run (hT:T.Ok P) (h:Rel F s β w0 st a w) {fn:Func} {avs:List AV} (hx:resAll T st fn.results.toList=some avs):∃ v,(results fn a.tmps).run P w=.ok v w∧(resAV avs).rep s β st.nr v:=by
 obtain ⟨vs,h1,h2⟩:=resAll_run hT h hx
 rw [results_eq]
 have e:fn.results=fn.results.toList.toArray:=by simp
 rw [e,List.mapM_toArray]
 simp only [Sem.run_bind,Sem.run_map,h1,Result.andThen]
 match avs,vs,h2 with
 | [],[],_=>exact ⟨_,rfl,⟨[],rfl,trivial⟩⟩
 | [x],[v],h2=>exact ⟨v,rfl,h2.1⟩
 | x :: y :: l,u :: v :: m,h2=>exact ⟨.tuple (u :: v :: m).toArray,by simp,⟨_,rfl,h2⟩⟩
 | [_],[],h2=>exact h2.elim
 | [_],_ :: _ :: _,h2=>exact h2.2.elim
 | [],_ :: _,h2=>exact h2.elim
 | _ :: _ :: _,[],h2=>exact h2.elim
 | _ :: _ :: _,[_],h2=>exact h2.2.elim
theorem inlX_ok {T : Tab} (hT : T.Ok P) {f : FuncId} {fn : Func} (fuel : Nat) (hf : P.funcs[f]? = some fn) (hname : (fn.name == "runtime.NumGoroutine") = false) : XOk P f (inlX T fuel fn) := by
 have split:∀ {F:Fix} {st st':St} {args:List AV} {av:AV},inlX T fuel fn F st args=some (av,st')→∃ code o st1 l,fn.body=some code∧args.length≤fn.ntmps∧args.length<4095 ∧
   run T { F with nt:=fn.ntmps } fuel code { st with tm:=tmOf 0 args .nil }=some (o,st1)∧(o=.normal∨o=.ret)∧resAll T st1 fn.results.toList=some l∧av=resAV l∧st'={ st1 with tm:=st.tm }:=by
  intro F st st' args av h
  unfold inlX at h
  split at h
  ·cases h
  ·rename_i code hc
   obtain ⟨hd,h2⟩:=bif_some h
   simp only [Bool.and_eq_true,decide_eq_true_eq] at hd
   split at h2
   ·rename_i st1 h1
    split at h2
    ·rename_i l hl
     cases h2
     exact ⟨code,_,st1,l,hc,hd.1,hd.2,h1,.inl rfl,hl,rfl,rfl⟩
    ·cases h2
   ·rename_i st1 h1
    split at h2
    ·rename_i l hl
     cases h2
     exact ⟨code,_,st1,l,hc,hd.1,hd.2,h1,.inr rfl,hl,rfl,rfl⟩
    ·cases h2
   ·cases h2
 refine ⟨fun h=>?_,fun {s β F w0 st st' a w args vals av} hr h hargs hH=>?_⟩
 ·obtain ⟨code,o,st1,l,_,_,_,h1,_,_,_,rfl⟩:=split h
  obtain ⟨⟨k,g1,g2⟩,g3⟩:=run_grows hT h1
  exact ⟨⟨k,g1,g2⟩,g3⟩
 ·obtain ⟨code,o,st1,l,hc,hle,hsm,h1,ho,hl,rfl,rfl⟩:=split h
  obtain ⟨hlen,hget⟩:=hargs
  have hstart:Rel { F with nt:=fn.ntmps } s β w0 { st with tm:=tmOf 0 args .nil } { tmps:=vals.toArray ++ Array.replicate (fn.ntmps - vals.toArray.size) undef,defers:=[] } w:=by
   refine { size:=?_,defs:=rfl,tm:=?_,mem:=hr.mem,frz:=hr.frz,fresh:=hr.fresh,dist:=hr.dist,old:=hr.old,sep:=hr.sep,nold:=hr.nold,outs:=hr.outs,below:=hr.below,dec:=hr.dec,it:=hr.it,np:=hr.np }
   ·simp; omega
   ·intro t x hx
    have hx':(tmOf 0 args .nil).get t=some x:=hx
    rw [tmOf_get _ _ _ _ (by omega)] at hx'
    by_cases ht:0≤t∧t<0+args.length
    ·rw [if_pos ht,Nat.sub_zero] at hx'
     have htv:t<vals.length:=by omega
     refine hget t x _ hx' ?_
     simp only [Array.getD_eq_getD_getElem?]
     rw [Array.getElem?_append_left (by simpa using htv)]
     simp [htv]
    ·rw [if_neg ht] at hx'
     cases hx'
  refine meets_of_calls hf (by rw [hc]; rfl) hname (calls_of_wp hf hc (run_wp hT hstart h1 hH fun β' a' w' hag hr'=>?_))
  obtain ⟨v,hv1,hv2⟩:=results_run hT hr' hl
  have hgr:=run_grows hT h1
  have haft:After F s β w0 a st { st1 with tm:=st.tm } (resAV l) v w':=by
   refine ⟨β',hag,hv2,?_⟩
   exact { size:=hr.size,defs:=hr.defs,tm:=fun t x hx=>AV.rep_mono hag hgr.nr (hr.tm t x hx),mem:=hr'.mem,frz:=hr'.frz,fresh:=hr'.fresh,dist:=hr'.dist,old:=hr'.old,sep:=hr'.sep,nold:=hr'.nold,outs:=hr'.outs,below:=hr'.below,dec:=hr'.dec,it:=hr'.it,np:=hr'.np }
  rcases ho with rfl | rfl
  ·exact ⟨hr'.defs,v,hv1,v,rfl,haft⟩
  ·exact ⟨hr'.defs,v,hv1,v,rfl,haft⟩
end
end P224
/- More operations of the executor: slices that are built, appended to, copied; interfaces of pointers. -/
namespace P224
open Go Go.RowKit
set_option linter.unusedVariables false
def setVals:List Value→Nat→List Value→List Value
 | l,_,[]=>l
 | l,o,v :: vs=>setVals (l.set o v) (o+1) vs
theorem setVals_length:∀ (vs l:List Value) (o:Nat),(setVals l o vs).length=l.length
 | [],_,_=>rfl
 | v :: vs,l,o=>by rw [setVals,setVals_length vs,List.length_set]
theorem foldl_setVals (off:Nat):∀ (vs l:List Value) (k:Nat),(vs.zipIdx k).foldl (fun cs (x:Value × Nat)=>cs.setIfInBounds (off+x.2) x.1) l.toArray=(setVals l (off+k) vs).toArray
 | [],_,_=>rfl
 | v :: vs,l,k=>by
  rw [List.zipIdx_cons,List.foldl_cons,setVals]
  have:=foldl_setVals off vs (l.set (off+k) v) (k+1)
  rw [← Nat.add_assoc] at this
  rw [← this]
  simp
def setRows (z:Nat):List Value→List (Nat × Value)→List Value
 | l,[]=>l
 | l,(i,v) :: ps=>setRows z (setVals l (i*z) v.cells.toList) ps
theorem fill_rows (z:Nat):∀ (ps:List (Nat × Value)) (l:List Value),(∀ p ∈ ps,p.2.cells.size=z∧p.1*z+z≤l.length) →
  Instr.fill (fun i=>some (i*z,z)) l.toArray ps=some (setRows z l ps).toArray
 | [],l,_=>rfl
 | (i,v) :: ps,l,h=>by
  obtain ⟨h1,h2⟩:=h (i,v) List.mem_cons_self
  simp only at h1 h2
  rw [Instr.fill]
  have hsz:¬ (v.cells.size≠z || i*z+v.cells.size > l.toArray.size)=true:=by rw [h1]; simp; omega
  simp only []
  rw [if_neg hsz,setRows]
  have e:v.cells.zipIdx.foldl (fun cs (x:Value × Nat)=>cs.setIfInBounds (i*z+x.2) x.1) l.toArray=(setVals l (i*z) v.cells.toList).toArray:=by
   have:=foldl_setVals (i*z) v.cells.toList l 0
   rw [Nat.add_zero] at this
   rw [← this]
   rw [← Array.foldl_toList,Array.toList_zipIdx]
  have ih:=fill_rows z ps (setVals l (i*z) v.cells.toList) (fun p hp=>by rw [setVals_length]; exact h p (List.mem_cons_of_mem _ hp))
  rw [← ih,← e]
def AV.row:AV→Option (List A0)
 | .one y=>bif definite y then some [y] else none
 | .agg l=>bif l.all definite then some l else none
 | _=>none
theorem row_rep {s:Nums} {β:Places} {n:Nat} {x:AV} {l:List A0} {v:Value} (h:x.row=some l) (hr:x.rep s β n v) :
  v.cells=(l.map (A0.conc s β)).toArray∧∀ y ∈ l,definite y=true∧y.rep s β n (y.conc s β):=by
 cases x with
 | one y =>
  obtain ⟨hd,h2⟩:=bif_some h
  cases h2
  have hv:=rep_conc hd hr
  have h1:=oneCell_conc (s:=s) (β:=β) hd
  refine ⟨?_,fun q hq=>?_⟩
  ·show v.cells=#[A0.conc s β y]
   rw [hv]
   revert h1
   generalize A0.conc s β y=v
   intro h1
   cases v <;> first | rfl | (cases h1; done)
  ·rw [List.mem_singleton.1 hq]
   exact ⟨hd,by rw [← hv]; exact hr⟩
 | agg l0 =>
  obtain ⟨hd,h2⟩:=bif_some h
  cases h2
  rw [List.all_eq_true] at hd
  obtain ⟨vs,rfl,hlen,hc⟩:=hr
  have hvs:vs=l.map (A0.conc s β):=by
   refine List.ext_getElem? fun j=>?_
   rw [List.getElem?_map]
   cases hj:l[j]? with
   | none =>
    have:=List.getElem?_eq_none_iff.1 hj
    exact List.getElem?_eq_none_iff.2 (by omega)
   | some y =>
    have hjl:=(List.getElem?_eq_some_iff.1 hj).1
    obtain ⟨u,hu⟩:∃ u,vs[j]?=some u:=⟨vs[j]'(by omega),List.getElem?_eq_getElem _⟩
    rw [hu,Option.map_some,rep_conc (hd y (List.mem_of_getElem? hj)) (hc j y u hj hu)]
  refine ⟨by rw [hvs]; rfl,fun y hy=>⟨hd y hy,?_⟩⟩
  obtain ⟨j,hj⟩:=List.getElem?_of_mem hy
  have:=hc j y (y.conc s β) hj (by rw [hvs,List.getElem?_map,hj]; rfl)
  exact this
 | two _ _=>cases h
 | tup _=>cases h
def buildRows (st:St) (z:Nat):List A0→List (Nat × Operand)→Option (List A0)
 | acc,[]=>some acc
 | acc,(i,x) :: ps=>match (st.ev x).row with
  | some l=>bif decide (l.length=z) && decide (i*z+z≤acc.length) then buildRows st z (setRange acc (i*z) l) ps else none
  | none=>none
theorem setVals_get:∀ (vs l:List Value) (o j:Nat),o+vs.length≤l.length→(setVals l o vs)[j]?=if o≤j∧j<o+vs.length then vs[j - o]? else l[j]?
 | [],l,o,j,_=>by
  rw [setVals,if_neg (by simp only [List.length_nil]; omega)]
 | v :: vs,l,o,j,h=>by
  simp only [List.length_cons] at h
  rw [setVals,setVals_get vs _ _ _ (by rw [List.length_set]; omega),List.getElem?_set]
  by_cases h1:o=j
  ·subst h1
   rw [if_neg (by omega),if_pos rfl,if_pos (by omega),if_pos (by simp only [List.length_cons]; omega),Nat.sub_self,List.getElem?_cons_zero]
  ·by_cases h2:o+1≤j∧j<o+1+vs.length
   ·rw [if_pos h2,if_pos (by simp only [List.length_cons]; omega),show j - o=(j - (o+1))+1 by omega,List.getElem?_cons_succ]
   ·rw [if_neg h2,if_neg h1,if_neg (by simp only [List.length_cons]; omega)]
theorem buildRows_rep {s:Nums} {β:Places} {st:St} {a:Act} (ht:TmOk s β st.nr st.tm a) {z:Nat}:∀ {ps:List (Nat × Operand)} {acc cells:List A0} {zs:List Value},buildRows st z acc ps=some cells→zs.length=acc.length →
  (∀ (j:Nat) x v,acc[j]?=some x→zs[j]?=some v→x.rep s β st.nr v) →
  (∀ p ∈ ps.map (fun p=>(p.1,a.eval p.2)),p.2.cells.size=z∧p.1*z+z≤acc.length)∧cells.length=acc.length∧(setRows z zs (ps.map fun p=>(p.1,a.eval p.2))).length=cells.length ∧
  ∀ (j:Nat) x v,cells[j]?=some x→(setRows z zs (ps.map fun p=>(p.1,a.eval p.2)))[j]?=some v→x.rep s β st.nr v
 | [],acc,cells,zs,h,hl,hr=>by
  cases h
  exact ⟨fun p hp=>by simp at hp,rfl,hl,hr⟩
 | (i,x) :: ps,acc,cells,zs,h,hl,hr=>by
  rw [buildRows] at h
  split at h
  ·rename_i l hy
   obtain ⟨h1,h2⟩:=bif_some h
   simp only [Bool.and_eq_true,decide_eq_true_eq] at h1
   obtain ⟨hc,hd⟩:=row_rep hy (ev_rep ht x)
   have hcl:(a.eval x).cells.toList=l.map (A0.conc s β):=by rw [hc]
   obtain ⟨g1,g2,g3,g4⟩:=buildRows_rep ht (zs:=setVals zs (i*z) (a.eval x).cells.toList) h2 (by rw [setVals_length,setRange_length,hl]) (fun j u v hu hv=>by
    rw [setRange_get _ _ _ _ (by omega)] at hu
    rw [setVals_get _ _ _ _ (by rw [hcl,List.length_map]; omega),hcl,List.length_map] at hv
    by_cases hj:i*z≤j∧j<i*z+l.length
    ·rw [if_pos hj] at hu hv
     rw [List.getElem?_map,hu] at hv
     cases hv
     exact (hd u (List.mem_of_getElem? hu)).2
    ·rw [if_neg hj] at hu hv
     exact hr j u v hu hv)
   rw [setRange_length] at g1 g2
   refine ⟨fun p hp=>?_,g2,g3,g4⟩
   simp only [List.map_cons,List.mem_cons] at hp
   rcases hp with rfl | hp
   ·refine ⟨?_,h1.2⟩
    show (a.eval x).cells.size=z
    rw [hc]
    simp [h1.1]
   ·exact g1 p hp
  ·cases h
structure BldTab where
 bsl:TypeId→Option (List Value)
 one:TypeId→Bool
 ptr:TypeId→Bool
structure BldTab.Ok (P:Program) (B:BldTab):Prop where
 bsl:∀ t zs,B.bsl t=some zs→∃ e i z,P.underlying t=some (.slice e)∧P.info? e=some i∧i.zero=some z∧z.cells=zs.toArray∧i.size=zs.length∧0<zs.length
 one:∀ t,B.one t=true→∃ e i,P.underlying t=some (.slice e)∧P.info? e=some i∧i.size=1
 ptr:∀ t,B.ptr t=true→∃ e,P.underlying t=some (.pointer e)
def lBld (B:BldTab):Lx:=fun F st op=>match op with
 | .buildSlice t n parts=>match B.bsl t with
  | some zs=>bif decide (0<n) && decide (n<100000) && decide (zs.length<100) then
    (match buildRows st zs.length (litCells (List.replicate n zs).flatten) parts.toList with
    | some cells=>some (.one (.slc st.nr 0 n n),{ st with mem:=(st.nr,cells) :: st.mem,nr:=st.nr+1 })
    | none=>none) else none
  | none=>none
 | .makeInterface t x=>match B.ptr t with
  | true=>some (.one .err,st)
  | false=>none
 | .call c=>match c.callee,c.args.toList,c.argTypes.toList with
  | .builtin .append,[x,y],[t,t']=>match st.ev x,st.ev y with
   | .one (.slc r o n cap),.one b=>match b.asSl with
    | some (r2,o2,m)=>bif B.one t && decide (t=t') && decide (n+m≤cap) then
      (match cellsAt st.mem r2 o2 m with
      | some l=>match write F st r (o+n) l with
       | some st'=>some (.one (.slc r o (n+m) cap),st')
       | none=>none
      | none=>none) else none
    | none=>none
   | _,_=>none
  | .builtin .copy,[x,y],[t,t']=>match st.ev x,st.ev y with
   | .one a,.one b=>match a.asSl,b.asSl with
    | some (r,o,n),some (r2,o2,m)=>bif B.one t then
      (match cellsAt st.mem r2 o2 (min m n) with
      | some l=>match write F st r o l with
       | some st'=>some (.one (.lit (goInt ((min m n:Nat):Int))),st')
       | none=>none
      | none=>none) else none
    | _,_=>none
   | _,_=>none
  | _,_,_=>none
 | _=>none
theorem flatten_get (zs:List Value) (hz:0<zs.length):∀ (n j:Nat),j<n*zs.length→(List.replicate n zs).flatten[j]?=zs[j % zs.length]?
 | 0,j,h=>by omega
 | n+1,j,h=>by
  rw [List.replicate_succ,List.flatten_cons]
  by_cases hj:j<zs.length
  ·rw [List.getElem?_append_left hj,Nat.mod_eq_of_lt hj]
  ·rw [List.getElem?_append_right (by omega),flatten_get zs hz n _ (by have:=Nat.succ_mul n zs.length; simp only [Nat.succ_eq_add_one] at this; omega)]
   rw [Nat.mod_eq_sub_mod (a:=j) (by omega)]
theorem flatten_len (zs:List Value) (n:Nat):(List.replicate n zs).flatten.length=n*zs.length:=by
 simp
theorem zero_rows (zs:List Value) (hz:0<zs.length) (n:Nat):(Array.range (n*zs.length)).map (zs.toArray[· % zs.toArray.size]!)=(List.replicate n zs).flatten.toArray:=by
 apply Array.ext'
 refine List.ext_getElem? fun j=>?_
 simp only [Array.toList_map,Array.toList_range,List.getElem?_map]
 by_cases hj:j<n*zs.length
 ·rw [flatten_get zs hz n j hj,List.getElem?_range hj]
  have:j % zs.length<zs.length:=Nat.mod_lt _ hz
  simp [this]
 ·rw [List.getElem?_eq_none (by simp; omega),List.getElem?_eq_none (by rw [flatten_len]; omega)]
  rfl
section
variable {P:Program} {s:Nums} {β:Places} {F:Fix} {w0:World} {st:St} {a:Act} {w:World}
theorem cells_vals (h:Rel F s β w0 st a w) {r o n:Nat} {l:List A0} (hl:cellsAt st.mem r o n=some l) (hd:∀ x ∈ l,definite x=true) :
  l.length=n∧(∀ (j:Nat) v,(l.map (A0.conc s β))[j]?=some v→w.cell? ((at_ β r o).add j)=some v)∧(∀ x ∈ l,x.rep s β st.nr (x.conc s β))∧∀ v ∈ l.map (A0.conc s β),v.oneCell'=true:=by
 obtain ⟨k,hk,hlen,hle,hj⟩:=cellsAt_ok (nr:=0) hl
 obtain ⟨_,hc⟩:=h.mem r k hk
 have key:∀ (j:Nat) y,l[j]?=some y→w.cell? (at_ β r (o+j))=some (y.conc s β)∧y.rep s β st.nr (y.conc s β):=fun j y hy=>by
  have hjn:j<n:=by
   have:=(List.getElem?_eq_some_iff.1 hy).1
   omega
  obtain ⟨v,h1,h2⟩:=hc (o+j) y (by rw [← hj j hjn]; exact hy)
  have:=rep_conc (hd y (List.mem_of_getElem? hy)) h2
  rw [← this]
  exact ⟨h1,h2⟩
 refine ⟨hlen,fun j v hv=>?_,fun x hx=>?_,fun v hv=>?_⟩
 ·rw [List.getElem?_map] at hv
  cases hlj:l[j]? with
  | none=>rw [hlj] at hv; cases hv
  | some y =>
   rw [hlj] at hv
   cases hv
   rw [at_add]
   exact (key j y hlj).1
 ·obtain ⟨j,hj⟩:=List.getElem?_of_mem hx
  exact (key j x hj).2
 ·obtain ⟨x,hx,rfl⟩:=List.mem_map.1 hv
  exact oneCell_conc (hd x hx)
theorem lBld_ok {B:BldTab} (hB:B.Ok P):LextOk P (lBld B):=by
 refine ⟨fun {F st st' op av} hq=>?_,fun {s β F w0 st st' a w o av} hr hq hH=>?_⟩
 ·unfold lBld at hq
  split at hq
  ·split at hq
   ·obtain ⟨_,h2⟩:=bif_some hq
    split at h2
    ·cases h2
     exact ⟨⟨[],rfl,rfl⟩,Nat.le_succ _⟩
    ·cases h2
   ·cases hq
  ·split at hq
   ·cases hq; exact .refl _
   ·cases hq
  ·split at hq
   ·split at hq
    ·split at hq
     ·obtain ⟨_,h2⟩:=bif_some hq
      split at h2
      ·split at h2
       ·rename_i hw; cases h2; exact write_grows hw (.refl _)
       ·cases h2
      ·cases h2
     ·cases hq
    ·cases hq
   ·split at hq
    ·split at hq
     ·obtain ⟨_,h2⟩:=bif_some hq
      split at h2
      ·split at h2
       ·rename_i hw; cases h2; exact write_grows hw (.refl _)
       ·cases h2
      ·cases h2
     ·cases hq
    ·cases hq
   ·cases hq
  ·cases hq
 ·intro next Q hn
  unfold lBld at hq
  split at hq
  ·rename_i t n parts ho
   split at hq
   ·rename_i zs hzs
    obtain ⟨hd,h2⟩:=bif_some hq
    simp only [Bool.and_eq_true,decide_eq_true_eq] at hd
    obtain ⟨⟨hn0,hn1⟩,hz100⟩:=hd
    split at h2
    ·rename_i cells hcells
     cases h2
     obtain ⟨e,i,z,hu,hi,hz,hzc,hsz,hpos⟩:=hB.bsl _ _ hzs
     obtain ⟨g1,g2,g3,g4⟩:=buildRows_rep hr.tm (zs:=(List.replicate n zs).flatten) hcells (by simp [litCells]) (fun j x v hx hv=>lit_cells j x v hx hv _ _)
     have hfill:=fill_rows zs.length (parts.toList.map fun p=>(p.1,a.eval p.2)) (List.replicate n zs).flatten (fun p hp=>by
      have:=g1 p hp
      rw [litCells,List.length_map] at this
      exact this)
     have hb:n*zs.length<100000*100:=Nat.mul_lt_mul'' hn1 hz100
     have hb0:0<n*zs.length:=Nat.mul_pos hn0 hpos
     have hrun:=run_buildSlice (P:=P) w t e n (parts.map fun (p:Nat × Operand)=>(p.1,a.eval p.2)) _ i z hu hi hz (by rw [hsz]; omega) (by rw [hsz]; omega)
      (by rw [hsz,hzc,zero_rows zs hpos,Array.toList_map]; exact hfill)
     have hrun':(execOp a.eval o).run P w=.ok (.value (.slice (some ⟨w.heap.size,0,none⟩) n n)) (w.alloc (.cells (setRows zs.length (List.replicate n zs).flatten (parts.toList.map fun p=>(p.1,a.eval p.2))).toArray e (0,0))):=by
      simp only [execOp,ho,Sem.run_bind,hrun,Result.andThen,Sem.run_pure]
     refine upon_value_ok hrun' (hn _ _ ?_)
     obtain ⟨β',hag,hnew,hrel⟩:=hr.made e (cells:=setRows zs.length (List.replicate n zs).flatten (parts.toList.map fun p=>(p.1,a.eval p.2))) (l:=cells) g3.symm
      (fun j x v hx hv β' hag=>A0.rep_mono hag (Nat.le_succ _) (g4 j x v hx hv)) st.nx st.exs
     refine ⟨β',hag,⟨?_,Nat.lt_succ_self _⟩,hrel⟩
     rw [at_,hnew]
    ·cases h2
   ·cases hq
  ·rename_i t x ho
   split at hq
   ·rename_i hp
    cases hq
    obtain ⟨e,hu⟩:=hB.ptr _ hp
    refine upon_value_ok (v:=.iface t (a.eval x)) (w1:=w) ?_ (hn _ _ ⟨β,Agree.refl _ _,⟨_,_,rfl⟩,hr⟩)
    simp only [execOp,ho,Instr.makeInterface,Sem.run_bind,run_underlying hu,Result.andThen,Sem.run_pure]
   ·cases hq
  ·rename_i c ho
   split at hq
   ·rename_i x y t t' hcal hargs htys
    have hargs':c.args=#[x,y]:=by rw [← Array.toList_inj]; exact hargs
    have htys':c.argTypes=#[t,t']:=by rw [← Array.toList_inj]; exact htys
    split at hq
    ·rename_i r d n cap b hx hy
     split at hq
     ·rename_i r2 o2 m hsl
      obtain ⟨hd,h2⟩:=bif_some hq
      simp only [Bool.and_eq_true,decide_eq_true_eq] at hd
      obtain ⟨⟨ht1,rfl⟩,hroom⟩:=hd
      split at h2
      ·rename_i l hl
       split at h2
       ·rename_i st1 hw
        cases h2
        have hxv:=ev_rep hr.tm x
        rw [hx] at hxv
        have hyv:=ev_rep hr.tm y
        rw [hy] at hyv
        obtain ⟨⟨c2,hv2,_⟩,_⟩:=asSl_rep hsl hyv
        obtain ⟨e,i,hu,hi,hsz⟩:=hB.one _ ht1
        obtain ⟨hlen,hcells,hreps,hone⟩:=cells_vals hr hl (write_def hw)
        obtain ⟨hrn,hrm⟩:=room_of hr hw rfl
        have hrun:=run_append_room_cells (P:=P) w t o.type e i hu hi (β r).1 ((β r).2+d) n cap (at_ β r2 o2) m c2 (l.map (A0.conc s β)) (by rw [List.length_map,hsz]; omega) hcells hone hroom
         (fun j hj=>by
          rw [List.length_map] at hj
          obtain ⟨⟨v,hv⟩,_⟩:=hrm j hj
          rw [hsz,Nat.mul_one,show (β r).2+d+n+j=(β r).2+(d+n)+j by omega,hv]; rfl)
         (fun j hj=>by
          rw [List.length_map] at hj
          rw [hsz,Nat.mul_one,show (β r).2+d+n+j=(β r).2+(d+n)+j by omega]
          exact (hrm j hj).2)
        have hxv':a.eval x=.slice (some ⟨(β r).1,(β r).2+d,none⟩) n cap:=hxv.1
        have hrun':(execOp a.eval o).run P w=.ok (.value (.slice (some ⟨(β r).1,(β r).2+d,none⟩) (n+m) cap)) (w.setCells (β r).1 ((β r).2+(d+n)) (l.map (A0.conc s β))):=by
         rw [hsz,Nat.mul_one,show (β r).2+d+n=(β r).2+(d+n) by omega] at hrun
         simp only [execOp,ho,resolve,hcal,hargs',htys',Sem.run_bind,Sem.run_pure,Result.andThen,invoke,builtin,List.map_toArray,List.map_cons,List.map_nil,hxv',hv2,hrun]
        refine upon_value_ok hrun' (hn _ _ ⟨β,Agree.refl _ _,⟨rfl,?_⟩,hr.wrote hw (Below.refl _ _) hreps⟩)
        rw [(write_nr hw).1]
        exact hxv.2
       ·cases h2
      ·cases h2
     ·cases hq
    ·cases hq
   ·rename_i x y t t' hcal hargs htys
    have hargs':c.args=#[x,y]:=by rw [← Array.toList_inj]; exact hargs
    have htys':c.argTypes=#[t,t']:=by rw [← Array.toList_inj]; exact htys
    split at hq
    ·rename_i xa b hx hy
     split at hq
     ·rename_i r d n r2 o2 m hsl1 hsl
      obtain ⟨ht1,h2⟩:=bif_some hq
      split at h2
      ·rename_i l hl
       split at h2
       ·rename_i st1 hw
        cases h2
        have hxv:=ev_rep hr.tm x
        rw [hx] at hxv
        have hyv:=ev_rep hr.tm y
        rw [hy] at hyv
        obtain ⟨⟨c1,hv1,_⟩,_⟩:=asSl_rep hsl1 hxv
        obtain ⟨⟨c2,hv2,_⟩,_⟩:=asSl_rep hsl hyv
        obtain ⟨e,i,hu,hi,hsz⟩:=hB.one _ ht1
        obtain ⟨hlen,hcells,hreps,hone⟩:=cells_vals hr hl (write_def hw)
        obtain ⟨hrn,hrm⟩:=room_of hr hw rfl
        have hrun:=run_copy_cells (P:=P) w t t' o.type e (β r).1 ((β r).2+d) n c1 (at_ β r2 o2) m c2 (l.map (A0.conc s β)) hu (by rw [hi]; simp [hsz]) (by rw [List.length_map]; exact hlen) hcells
         (fun j hj=>by
          rw [List.length_map] at hj
          obtain ⟨⟨v,hv⟩,_⟩:=hrm j hj
          rw [hv]; rfl)
         (fun j hj=>by
          rw [List.length_map] at hj
          exact (hrm j hj).2) hone
        rw [List.length_map,hlen] at hrun
        have hv1':a.eval x=.slice (some ⟨(β r).1,(β r).2+d,none⟩) n c1:=hv1
        have hrun':(execOp a.eval o).run P w=.ok (.value (goInt ((min m n:Nat):Int))) (w.setCells (β r).1 ((β r).2+d) (l.map (A0.conc s β))):=by
         simp only [execOp,ho,resolve,hcal,hargs',htys',Sem.run_bind,Sem.run_pure,Result.andThen,invoke,builtin,List.map_toArray,List.map_cons,List.map_nil,hv1',hv2,hrun]
        exact upon_value_ok hrun' (hn _ _ ⟨β,Agree.refl _ _,rfl,hr.wrote hw (Below.refl _ _) hreps⟩)
       ·cases h2
      ·cases h2
     ·cases hq
    ·cases hq
   ·cases hq
  ·cases hq
end
end P224
/- The table of the program of P-224 with all operations. -/
namespace P224
open Go Go.RowKit Go.Proofs
set_option maxRecDepth 100000
def moreT:MoreTab where
 arr:=fun t=>findT t arrL
 slc:=fun t=>findT t slcL
 ifc:=fun t=>t == 66
 str:=fun t=>t == 9
theorem moreT_ok:moreT.Ok Try.prog where
 arr:=(tab_ok false [] (fun _ _ h=>by cases h)).arr
 slc:=(tab_ok false [] (fun _ _ h=>by cases h)).slc
 ifc:=fun t h=>by
  have h':=beq_iff_eq.1 h
  subst h'
  show Try.prog.underlying 66=some (.interface (Try.prog.methodsAt 66))
  unfold Program.methodsAt
  rw [Try.underlying66]
 str:=fun t h=>by
  have h':=beq_iff_eq.1 h
  subst h'
  exact Try.underlying9
def bslL:List (Nat × List Value):=[(27,[.int .u8 0]),(23,[.int .i64 0,.int .i64 0]),(85,[.slice none 0 0])]
def bldT:BldTab where
 bsl:=fun t=>findT t bslL
 one:=fun t=>t == 27
 ptr:=fun t=>t == 120
theorem bsl_of {P:Program} {t e:TypeId} {z:Value} {zs:List Value} (h1:P.underlying t=some (.slice e)) (h2:(P.info? e).bind (·.zero)=some z) (hz:z.cells=zs.toArray) (h3:(P.info? e).map (·.size)=some zs.length) (h4:0<zs.length) :
  ∃ e i z,P.underlying t=some (.slice e)∧P.info? e=some i∧i.zero=some z∧z.cells=zs.toArray∧i.size=zs.length∧0<zs.length:=by
 obtain ⟨i,hi,hs⟩:=info_size h3
 rw [hi] at h2
 exact ⟨e,i,z,h1,hi,h2,hz,hs,h4⟩
theorem bldT_ok:bldT.Ok Try.prog where
 bsl:=by
  intro t zs h
  have:=findT_mem h
  simp only [bslL,List.mem_cons,List.not_mem_nil,or_false,Prod.mk.injEq] at this
  rcases this with h | h | h <;> obtain ⟨rfl,rfl⟩:=h
  ·exact bsl_of (z:=.int .u8 0) Try.underlying27 (by kernel_rfl) rfl (by kernel_rfl) (by decide)
  ·exact bsl_of (z:=.agg #[.int .i64 0,.int .i64 0]) Try.underlying23 (by kernel_rfl) rfl (by kernel_rfl) (by decide)
  ·exact bsl_of (z:=.slice none 0 0) Try.underlying85 (by kernel_rfl) rfl (by kernel_rfl) (by decide)
 one:=fun t h=>by
  have h':=beq_iff_eq.1 h
  subst h'
  exact slc_of Try.underlying27 (by kernel_rfl)
 ptr:=fun t h=>by
  have h':=beq_iff_eq.1 h
  subst h'
  exact ⟨_,Try.underlying120⟩
def kindX (t:TypeId):Option IntKind:=findT t kindL
theorem kindX_ok:∀ t k,kindX t=some k→Try.prog.underlying t=some (.int k):=(tab_ok false [] (fun _ _ h=>by cases h)).kind
def tabX (asElem:Bool) (prims:List (Nat × Prim)) (xs:List (Nat × X)):Tab :=
 { tabOf asElem prims with
  qext:=Qx.or (qMore moreT) (Qx.or (qLit kindX) (qWord kindX))
  lext:=Lx.or (lCalls xs) (lBld bldT) }
theorem tabX_ok {asElem:Bool} {prims:List (Nat × Prim)} {xs:List (Nat × X)} (hp:∀ f p,(f,p) ∈ prims→PrimOk Try.prog f p) (hx:∀ f g,(f,g) ∈ xs→XOk Try.prog f g):(tabX asElem prims xs).Ok Try.prog :=
 let h:=tab_ok asElem prims hp
 {
  mixed:=h.mixed,arr:=h.arr,fld:=h.fld,var:=h.var,zero:=h.zero,bld:=h.bld,slc:=h.slc,mks:=h.mks,kind:=h.kind,elem:=h.elem,prim:=h.prim
  qext:=QextOk.or (qMore_ok moreT_ok) (QextOk.or (qLit_ok kindX_ok) (qWord_ok kindX_ok))
  lext:=LextOk.or (lCalls_ok hx) (lBld_ok bldT_ok) }
def with1 (xs:List (Nat × X)) (prims:List (Nat × Prim)) (fuel:Nat) (f:Nat) (fn:Func):List (Nat × X):=(f,inlX (tabX true prims xs) fuel fn) :: xs
end P224
