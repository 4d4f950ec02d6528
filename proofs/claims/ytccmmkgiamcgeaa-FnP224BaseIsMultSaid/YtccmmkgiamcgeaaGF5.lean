/- How a call of a function of words or elements is met by a run in brief: its start and its end, in lists. -/
import Derived.Test.YtccmmkgiamcgeaaGF1
set_option linter.all false
namespace P224
open Go Go.RowKit Go.Proofs
set_option maxRecDepth 100000
def ArgsOk (s:Nums) (β:Places) (n:Nat):List AV→List Value→Prop
 | x :: l,v :: m=>x.rep s β n v∧ArgsOk s β n l m
 | [],[]=>True
 | _,_=>False
theorem ArgsOk.get {s:Nums} {β:Places} {n:Nat}:∀ {l:List AV} {m:List Value},ArgsOk s β n l m→m.length=l.length∧∀ (j:Nat) (x:AV) (v:Value),l[j]?=some x→m[j]?=some v→x.rep s β n v
 | [],[],_=>⟨rfl,fun j x v h=>by simp at h⟩
 | x :: l,v :: m,h=>by
  obtain ⟨h1,h2⟩:=h
  obtain ⟨h3,h4⟩:=ArgsOk.get h2
  refine ⟨by simp [h3],fun j y u hy hu=>?_⟩
  cases j with
  | zero=>cases hy; cases hu; exact h1
  | succ j=>exact h4 j y u (by simpa using hy) (by simpa using hu)
def RowOk (s:Nums) (β:Places) (n r:Nat) (w:World):Nat→List A0→Prop
 | _,[]=>True
 | j,x :: l=>(∃ v,w.cell? (at_ β r j)=some v∧x.rep s β n v)∧RowOk s β n r w (j+1) l
theorem RowOk.get {s:Nums} {β:Places} {n r:Nat} {w:World}:∀ {l:List A0} {k:Nat},RowOk s β n r w k l→∀ (j:Nat) (x:A0),l[j]?=some x→∃ v,w.cell? (at_ β r (k+j))=some v∧x.rep s β n v
 | [],_,_,j,x,h=>by simp at h
 | y :: l,k,h,0,x,hx=>by cases hx; exact h.1
 | y :: l,k,h,j+1,x,hx=>by
  have:=RowOk.get h.2 j x (by simpa using hx)
  rwa [Nat.add_assoc,Nat.add_comm 1 j] at this
def MemOk (s:Nums) (β:Places) (n:Nat) (w:World):List (Nat × List A0)→Prop
 | []=>True
 | (r,l) :: m=>r<n∧RowOk s β n r w 0 l∧MemOk s β n w m
theorem MemOk.get {s:Nums} {β:Places} {n:Nat} {w:World}:∀ {m:List (Nat × List A0)},MemOk s β n w m→∀ r l,lookup r m=some l→r<n∧CellsOk s β n r l w
 | [],_,r,l,h=>by cases h
 | (q,k) :: m,h,r,l,hl=>by
  rw [lookup] at hl
  cases hq:(q == r) with
  | true =>
   have:=beq_iff_eq.1 hq
   subst this
   rw [hq,cond_true] at hl
   cases hl
   exact ⟨h.1,fun j x hx=>by have:=h.2.1.get j x hx; rwa [Nat.zero_add] at this⟩
  | false =>
   rw [hq,cond_false] at hl
   exact MemOk.get h.2.2 r l hl
theorem calls_brief {T:Tab} (hT:T.Ok Try.prog) {g:FuncId} {fn:Func} {F:Fix} {fuel nx nx0:Nat} {args:List AV} {mem:List (Nat × List A0)} {exs:List Ex} {out:List (Nat × Nat × A0)} {o:Out} {ts:List Nat} {avs:List (Option AV)}
  (hb:brief ts (runF T F fuel fn (startSt args mem nx0 F.nold))=some (o,nx,exs,out,avs)) (hf:Try.prog.funcs[g]?=some fn) (hnt:fn.ntmps=F.nt) {res:Option Tmp} (hres:resultOk fn o res)
  (hsc:inScope nx exs=true) (hle:exs.length≤nx) (hn0:nx - exs.length=nx0) (ha1:args.length≤F.nt) (ha2:args.length<4095)
  (s0:Nums) (β:Places) {w:World} {vals:List Value} {R:Ending→World→Prop}
  (hargs:∀ s:Nums,(∀ i,i<nx0→s i=s0 i)→ArgsOk s β F.nold args vals)
  (hmem:∀ s:Nums,(∀ i,i<nx0→s i=s0 i)→MemOk s β F.nold w mem)
  (hfrz:∀ r l,lookup r mem=some l→F.wr r=true→∀ j,j<l.length→w.frozen? (at_ β r j)=false)
  (hold:∀ r,r<F.nold→(β r).1<w.heap.size) (hsep:∀ r q,r<F.nold→q<F.nold→F.sep r q=true→(β r).1≠(β q).1)
  (hdec:∀ s:Nums,(∀ i,i<nx0→s i=s0 i)→Holds s nx exs→Dec F s)
  (fin:∀ s:Nums,(∀ i,i<nx0→s i=s0 i)→Holds s nx exs→∀ (st':St) (β':Places) (a':Act) (w':World),ts.map st'.tm.get=avs→Agree β β' F.nold→Rel F s β' w st' a' w'→Below w.heap.size (applyOut s β' w out) w' →
   R (.returned (match res with | none=>.tuple #[] | some t=>a'.tmps.getD t undef)) w')
  (hnp:∀ s:Nums,(∀ i,i<nx0→s i=s0 i)→∀ r i j,F.np r=some (i,j)→r<F.nold∧Flag w (β r) (s i) (s j):=by
   intro s hs r i j h
   exact absurd (show (none:Option (Nat × Nat))=some (i,j) from h) (by simp)):Calls Try.prog g vals.toArray w R:=by
 obtain ⟨st',hrun,hnx,hexs,hout,hts⟩:=brief_spec hb
 obtain ⟨c,hc,hrun⟩:=calls_of_runF hrun
 obtain ⟨s,hH,hs0⟩:=exists_nums s0 hle hsc
 rw [hn0] at hs0
 obtain ⟨hlen,hget⟩:=(hargs s hs0).get
 have hstart:Rel F s β w (startSt args mem nx0 F.nold) { tmps:=vals.toArray ++ Array.replicate (fn.ntmps - vals.toArray.size) undef,defers:=[] } w :=
  rel_start hlen hnt ha1 ha2 hget (hmem s hs0).get hfrz hold hsep (hdec s hs0 hH) (hnp s hs0)
 refine calls_run hT hf hc hres hstart hrun (by rw [hnx,hexs]; exact hH) fun β' a' w' hag hr=>?_
 have hbe:=hr.below
 rw [hout] at hbe
 exact fin s hs0 hH st' β' a' w' hts hag hr hbe
theorem pq_224:pq<2 ^ 224:=by decide +kernel
theorem lim_lt (k v:Nat):lim k v<18446744073709551616:=Nat.mod_lt _ (Nat.two_pow_pos _)
theorem lim_sum (v:Nat):lim 0 v+18446744073709551616*lim 1 v+340282366920938463463374607431768211456*lim 2 v+6277101735386680763835789423207666416102355444464034512896*lim 3 v=v*2 ^ 256 % pq:=by
 have h:v*2 ^ 256 % pq<pq:=Nat.mod_lt _ pq_pos
 have h2:=pq_224
 unfold lim
 generalize v*2 ^ 256 % pq=A at *
 have e0:(2:Nat) ^ (64*0)=1:=by decide
 have e1:(2:Nat) ^ (64*1)=18446744073709551616:=by decide
 have e2:(2:Nat) ^ (64*2)=340282366920938463463374607431768211456:=by decide
 have e3:(2:Nat) ^ (64*3)=6277101735386680763835789423207666416102355444464034512896:=by decide +kernel
 have e4:(2:Nat) ^ 224=26959946667150639794667015087019630673637144422540572481103610249216:=by decide +kernel
 rw [e4] at h2
 rw [e0,e1,e2,e3]
 omega
theorem lim_of_sum {r0 r1 r2 r3 v:Nat} (h:r0+18446744073709551616*r1+340282366920938463463374607431768211456*r2+6277101735386680763835789423207666416102355444464034512896*r3=v*2 ^ 256 % pq)
  (h0:r0<18446744073709551616) (h1:r1<18446744073709551616) (h2:r2<18446744073709551616) (_h3:r3<18446744073709551616):r0=lim 0 v∧r1=lim 1 v∧r2=lim 2 v∧r3=lim 3 v:=by
 have:=lim_sum v
 have l0:=lim_lt 0 v
 have l1:=lim_lt 1 v
 have l2:=lim_lt 2 v
 have l3:=lim_lt 3 v
 rw [← h] at this
 omega
def rinv:Nat:=6277101733925179126504886505003981583349178936664977833984
theorem rinv_spec:2 ^ 256*rinv % pq=1:=by decide +kernel
theorem unmont' (x:Nat) (hx:x<pq):(x*2 ^ 256 % pq)*rinv % pq=x:=by
 rw [Nat.mod_mul_mod,Nat.mul_assoc,← Nat.mul_mod_mod,rinv_spec,Nat.mul_one,Nat.mod_eq_of_lt hx]
theorem unmont {a b:Nat} (ha:a<pq) (hb:b<pq) (h:a*2 ^ 256 % pq=b*2 ^ 256 % pq):a=b:=by
 rw [← unmont' a ha,h,unmont' b hb]
theorem mont_prod {r A B x y:Nat} (hr:r*2 ^ 256 % pq=A*B % pq) (hlt:r<pq) (hA:A=x*2 ^ 256 % pq) (hB:B=y*2 ^ 256 % pq):r=(x*y % pq)*2 ^ 256 % pq:=by
 refine unmont hlt (Nat.mod_lt _ pq_pos) ?_
 rw [hr,hA,hB,← Nat.mul_mod,Nat.mod_mul_mod,Nat.mul_assoc (x*y % pq),Nat.mod_mul_mod,Nat.mul_mul_mul_comm]
theorem mont_add {r A B x y:Nat} (hr:r=(A+B) % pq) (hA:A=x*2 ^ 256 % pq) (hB:B=y*2 ^ 256 % pq):r=((x+y) % pq)*2 ^ 256 % pq:=by
 rw [hr,hA,hB,← Nat.add_mod,← Nat.add_mul,Nat.mod_mul_mod]
theorem neg_aux {n a c:Nat} (h2:(a+c) % n=0) (h3:a<n) (h4:c<n):a=(n - c) % n:=by
 have h5:a+c=0∨a+c=n:=by
  by_cases h:a+c<n
  ·rw [Nat.mod_eq_of_lt h] at h2; exact .inl h2
  ·right
   have:(a+c - n) % n=0:=by rw [← Nat.mod_eq_sub_mod (Nat.le_of_not_lt h)]; exact h2
   rw [Nat.mod_eq_of_lt (by omega)] at this
   omega
 rcases h5 with h5 | h5
 ·have:a=0:=by omega
  have:c=0:=by omega
  subst a c
  rw [Nat.sub_zero,Nat.mod_self]
 ·rw [← h5,Nat.add_sub_cancel]
  exact (Nat.mod_eq_of_lt (by omega)).symm
theorem mont_neg {y:Nat} (hy:y<pq):((pq - y)*2 ^ 256) % pq=(pq - y*2 ^ 256 % pq) % pq:=by
 have h1:(pq - y)*2 ^ 256+y*2 ^ 256=pq*2 ^ 256:=by rw [← Nat.add_mul,Nat.sub_add_cancel (Nat.le_of_lt hy)]
 refine neg_aux ?_ (Nat.mod_lt _ pq_pos) (Nat.mod_lt _ pq_pos)
 rw [← Nat.add_mod,h1]
 exact Nat.mul_mod_right _ _
theorem mont_sub {r A B x y:Nat} (hr:r=(A+(pq - B)) % pq) (hA:A=x*2 ^ 256 % pq) (hB:B=y*2 ^ 256 % pq) (hy:y<pq):r=((x+(pq - y)) % pq)*2 ^ 256 % pq:=by
 rw [hr,hA,hB,Nat.mod_mul_mod,Nat.add_mul,Nat.add_mod,Nat.mod_mod,← mont_neg hy,← Nat.add_mod]
abbrev S4 (a b c d:Nat):Nat:=a+18446744073709551616*b+340282366920938463463374607431768211456*c+6277101735386680763835789423207666416102355444464034512896*d
def w4 (i:Nat):List A0:=[.num .u64 i,.num .u64 (i+1),.num .u64 (i+2),.num .u64 (i+3)]
def any4:List A0:=[.any,.any,.any,.any]
def st3:St:=startSt [.one (.ptr 0 0),.one (.ptr 1 0),.one (.ptr 2 0)] [(0,any4),(1,w4 0),(2,w4 4)] 8 3
def st2:St:=startSt [.one (.ptr 0 0),.one (.ptr 1 0)] [(0,any4),(1,w4 0)] 4 2
def st1:St:=startSt [.one (.ptr 0 0)] [(0,any4)] 0 1
def stsel:St:=startSt [.one (.ptr 0 0),.one (.bit .u64 0),.one (.ptr 1 0),.one (.ptr 2 0)] [(0,any4),(1,w4 1),(2,w4 5)] 9 3
def out4 (a b c d:Nat):List (Nat × Nat × A0):=[(0,3,.num .u64 d),(0,2,.num .u64 c),(0,1,.num .u64 b),(0,0,.num .u64 a)]
theorem any4_row {s:Nums} {β:Places} {n r:Nat} {w:World} {b o:Nat} (hβ:β r=(b,o)) (h:RoomAt w b o):RowOk s β n r w 0 any4:=by
 refine ⟨?_,?_,?_,?_,trivial⟩ <;> rw [at_,hβ]
 ·obtain ⟨v,hv⟩:=(h 0 (by decide)).1; exact ⟨v,hv,trivial⟩
 ·obtain ⟨v,hv⟩:=(h 1 (by decide)).1; exact ⟨v,hv,trivial⟩
 ·obtain ⟨v,hv⟩:=(h 2 (by decide)).1; exact ⟨v,hv,trivial⟩
 ·obtain ⟨v,hv⟩:=(h 3 (by decide)).1; exact ⟨v,hv,trivial⟩
theorem any4_frz {β:Places} {r:Nat} {w:World} {b o:Nat} (hβ:β r=(b,o)) (h:RoomAt w b o):∀ j,j<any4.length→w.frozen? (at_ β r j)=false:=fun j hj=>by
 rw [at_,hβ]
 exact (h j hj).2
theorem w4_row {s:Nums} {β:Places} {n r:Nat} {w:World} {b o x i:Nat} (hβ:β r=(b,o)) (h:ElemAt w b o x) (hs:∀ k,k<4→s (i+k)=lim k x):RowOk s β n r w 0 (w4 i):=by
 have key:∀ k,k<4→∃ v,w.cell? (at_ β r k)=some v∧(A0.num .u64 (i+k)).rep s β n v:=fun k hk=>by
  refine ⟨_,by rw [at_,hβ]; exact h k hk,?_,?_⟩
  ·rw [hs k hk]
  ·rw [hs k hk]; exact lim_lt k x
 exact ⟨key 0 (by decide),key 1 (by decide),key 2 (by decide),key 3 (by decide),trivial⟩
theorem out4_apply {s:Nums} {β:Places} {w:World} {a b c d v x o:Nat} (hβ:β 0=(x,o)) (h:s a=lim 0 v∧s b=lim 1 v∧s c=lim 2 v∧s d=lim 3 v):applyOut s β w (out4 a b c d)=w.setCells x o (words v):=by
 obtain ⟨h0,h1,h2,h3⟩:=h
 have e:applyOut s β w (out4 a b c d)=(((w.setCell (at_ β 0 0) (.int .u64 (s a:Int))).setCell (at_ β 0 1) (.int .u64 (s b:Int))).setCell (at_ β 0 2) (.int .u64 (s c:Int))).setCell (at_ β 0 3) (.int .u64 (s d:Int)):=rfl
 rw [e,h0,h1,h2,h3]
 simp only [at_,hβ]
 rfl
theorem lt03:0<3:=by decide
theorem lt13:1<3:=by decide
theorem lt23:2<3:=by decide
theorem lt02:0<2:=by decide
theorem lt12:1<2:=by decide
theorem meets2_words {g:FuncId} {fn:Func} {nt fuel nx r0 r1 r2 r3:Nat} {exs:List Ex} {f:Nat→Nat→Nat}
  (hb:brief [] (runF (tabOf false wordPrims) (regFix nt 3 1) fuel fn st3)=some (.normal,nx,exs,out4 r0 r1 r2 r3,[])) (hf:Try.prog.funcs[g]?=some fn) (hnt:fn.ntmps=nt) (hres:fn.results=#[])
  (hbody : fn.body.isNone = false) (hname : (fn.name == "runtime.NumGoroutine") = false) (hsc : inScope nx exs = true) (hle : exs.length + 8 = nx) (hn3 : 3 ≤ nt)
  (law:∀ s:Nums,Holds s nx exs→(∀ i,i<8→s i<18446744073709551616)→S4 (s 0) (s 1) (s 2) (s 3)<pq→S4 (s 4) (s 5) (s 6) (s 7)<pq→∀ x y,x<pq→y<pq→S4 (s 0) (s 1) (s 2) (s 3)=x*2 ^ 256 % pq→S4 (s 4) (s 5) (s 6) (s 7)=y*2 ^ 256 % pq →
   S4 (s r0) (s r1) (s r2) (s r3)=f x y*2 ^ 256 % pq∧s r0<18446744073709551616∧s r1<18446744073709551616∧s r2<18446744073709551616∧s r3<18446744073709551616):Meets2 Try.prog g true f:=by
 intro w b o b1 o1 b2 o2 x y hlt hroom hx hy hxl hyl
 refine meets_of_calls hf hbody hname ?_
 let β:Places:=fun r=>if r=0 then (b,o) else if r=1 then (b1,o1) else (b2,o2)
 have in1:∀ s:Nums,(∀ i,i<8→s i=if i<4 then lim i x else lim (i - 4) y)→(∀ k,k<4→s (0+k)=lim k x)∧∀ k,k<4→s (4+k)=lim k y:=fun s hs=>by
  refine ⟨fun k hk=>?_,fun k hk=>?_⟩
  ·rw [hs _ (by omega),if_pos (by omega),Nat.zero_add]
  ·rw [hs _ (by omega),if_neg (by omega),Nat.add_sub_cancel_left]
 refine calls_brief (tabW_ok) hb hf hnt (res:=none) ⟨.inl rfl,hres⟩ hsc (by omega) (by omega) hn3 (by decide) (fun i=>if i<4 then lim i x else lim (i - 4) y) β
  (vals:=[ptrTo b o,ptrTo b1 o1,ptrTo b2 o2]) (fun s hs=>⟨⟨rfl,lt03⟩,⟨rfl,lt13⟩,⟨rfl,lt23⟩,trivial⟩)
  (fun s hs=>⟨lt03,any4_row rfl hroom,lt13,w4_row rfl hx (in1 s hs).1,lt23,w4_row rfl hy (in1 s hs).2,trivial⟩) ?_ ?_ (fun r q _ _ h=>by cases h) (fun _ _ _ i b h=>by cases h) ?_
 ·intro r l hl hr
  have h0:r<1:=of_decide_eq_true hr
  have:r=0:=by omega
  subst this
  cases hl
  exact any4_frz rfl hroom
 ·intro r _
  have hc:∀ {b o:Nat} {x:Nat},ElemAt w b o x→b<w.heap.size:=fun h=>World.block_lt_of_cell? w _ (h 0 (by decide))
  show (if r=0 then (b,o) else if r=1 then (b1,o1) else (b2,o2)).1<_
  split
  ·exact hlt
  ·split
   ·exact hc hx
   ·exact hc hy
 ·intro s hs hH st' β' a' w' _ hag _ hbe
  obtain ⟨i1,i2⟩:=in1 s hs
  have s0:=i1 0 (by decide)
  have s1:=i1 1 (by decide)
  have s2:=i1 2 (by decide)
  have s3:=i1 3 (by decide)
  have s4:=i2 0 (by decide)
  have s5:=i2 1 (by decide)
  have s6:=i2 2 (by decide)
  have s7:=i2 3 (by decide)
  simp only [Nat.zero_add,Nat.add_zero,Nat.reduceAdd] at s0 s1 s2 s3 s4 s5 s6 s7
  have e1:S4 (s 0) (s 1) (s 2) (s 3)=x*2 ^ 256 % pq:=by rw [s0,s1,s2,s3]; exact lim_sum x
  have e2:S4 (s 4) (s 5) (s 6) (s 7)=y*2 ^ 256 % pq:=by rw [s4,s5,s6,s7]; exact lim_sum y
  obtain ⟨h1,h2,h3,h4,h5⟩:=law s hH (fun i hi=>by
   rw [hs i hi]
   split
   ·exact lim_lt _ _
   ·exact lim_lt _ _) (by rw [e1]; exact Nat.mod_lt _ pq_pos) (by rw [e2]; exact Nat.mod_lt _ pq_pos) x y hxl hyl e1 e2
  refine ⟨_,rfl,(fun h=>by cases h),?_⟩
  rw [out4_apply (β:=β') (hag 0 (by show 0<3; decide)) (lim_of_sum h1 h2 h3 h4 h5)] at hbe
  exact hbe
theorem meets1_words {g:FuncId} {fn:Func} {nt fuel nx r0 r1 r2 r3:Nat} {exs:List Ex} {f:Nat→Nat}
  (hb:brief [] (runF (tabOf false wordPrims) (regFix nt 2 1) fuel fn st2)=some (.normal,nx,exs,out4 r0 r1 r2 r3,[])) (hf:Try.prog.funcs[g]?=some fn) (hnt:fn.ntmps=nt) (hres:fn.results=#[])
  (hbody : fn.body.isNone = false) (hname : (fn.name == "runtime.NumGoroutine") = false) (hsc : inScope nx exs = true) (hle : exs.length + 4 = nx) (hn3 : 2 ≤ nt)
  (law:∀ s:Nums,Holds s nx exs→(∀ i,i<4→s i<18446744073709551616)→S4 (s 0) (s 1) (s 2) (s 3)<pq→∀ x,x<pq→S4 (s 0) (s 1) (s 2) (s 3)=x*2 ^ 256 % pq →
   S4 (s r0) (s r1) (s r2) (s r3)=f x*2 ^ 256 % pq∧s r0<18446744073709551616∧s r1<18446744073709551616∧s r2<18446744073709551616∧s r3<18446744073709551616):Meets1 Try.prog g true f:=by
 intro w b o b1 o1 x hlt hroom hx hxl
 refine meets_of_calls hf hbody hname ?_
 let β:Places:=fun r=>if r=0 then (b,o) else (b1,o1)
 have in1:∀ s:Nums,(∀ i,i<4→s i=lim i x)→(∀ k,k<4→s (0+k)=lim k x):=fun s hs k hk=>by
  rw [hs _ (by omega),Nat.zero_add]
 refine calls_brief (tabW_ok) hb hf hnt (res:=none) ⟨.inl rfl,hres⟩ hsc (by omega) (by omega) hn3 (by decide) (fun i=>lim i x) β
  (vals:=[ptrTo b o,ptrTo b1 o1]) (fun s hs=>⟨⟨rfl,lt02⟩,⟨rfl,lt12⟩,trivial⟩)
  (fun s hs=>⟨lt02,any4_row rfl hroom,lt12,w4_row rfl hx (in1 s hs),trivial⟩) ?_ ?_ (fun r q _ _ h=>by cases h) (fun _ _ _ i b h=>by cases h) ?_
 ·intro r l hl hr
  have h0:r<1:=of_decide_eq_true hr
  have:r=0:=by omega
  subst this
  cases hl
  exact any4_frz rfl hroom
 ·intro r _
  show (if r=0 then (b,o) else (b1,o1)).1<_
  split
  ·exact hlt
  ·exact World.block_lt_of_cell? w _ (hx 0 (by decide))
 ·intro s hs hH st' β' a' w' _ hag _ hbe
  have i1:=in1 s hs
  have s0:=i1 0 (by decide)
  have s1:=i1 1 (by decide)
  have s2:=i1 2 (by decide)
  have s3:=i1 3 (by decide)
  simp only [Nat.zero_add,Nat.add_zero] at s0 s1 s2 s3
  have e1:S4 (s 0) (s 1) (s 2) (s 3)=x*2 ^ 256 % pq:=by rw [s0,s1,s2,s3]; exact lim_sum x
  obtain ⟨h1,h2,h3,h4,h5⟩:=law s hH (fun i hi=>by
   rw [hs i hi]
   exact lim_lt _ _) (by rw [e1]; exact Nat.mod_lt _ pq_pos) x hxl e1
  refine ⟨_,rfl,(fun h=>by cases h),?_⟩
  rw [out4_apply (β:=β') (hag 0 (by show 0<2; decide)) (lim_of_sum h1 h2 h3 h4 h5)] at hbe
  exact hbe
end P224
/- The contracts of the functions of words that work on elements: product, square, sum, difference, one, select. -/
namespace P224
open Go Go.RowKit Go.Proofs
set_option maxRecDepth 100000
theorem run107:brief [] (runF (tabOf false wordPrims) (regFix 904 3 1) 2000 Try.f107 st3)=some (.normal,207,ex107,out4 203 204 205 206,[]):=by kernel_rfl
theorem meets107:PrimOk Try.prog 107 (.fmul true) :=
 meets2_words run107 Try.func107 Try.ntmps107 Try.results107 (by kernel_rfl) (by kernel_rfl) (by decide +kernel) (by decide +kernel) (by decide) fun s hH hb _ h2 x y _ _ ex ey=>by
  obtain ⟨h,hlt,hr⟩:=holds107 hH (hb 0 (by decide)) (hb 1 (by decide)) (hb 2 (by decide)) (hb 3 (by decide)) (hb 4 (by decide)) (hb 5 (by decide)) (hb 6 (by decide)) (hb 7 (by decide)) h2
  exact ⟨mont_prod h hlt ex ey,hr⟩
theorem run106:brief [] (runF (tabOf false wordPrims) (regFix 902 2 1) 2000 Try.f106 st2)=some (.normal,203,ex106,out4 199 200 201 202,[]):=by kernel_rfl
theorem meets106:PrimOk Try.prog 106 (.fsq true) :=
 meets1_words run106 Try.func106 Try.ntmps106 Try.results106 (by kernel_rfl) (by kernel_rfl) (by decide +kernel) (by decide +kernel) (by decide) fun s hH hb h2 x _ ex=>by
  obtain ⟨h,hlt,hr⟩:=holds106 hH (hb 0 (by decide)) (hb 1 (by decide)) (hb 2 (by decide)) (hb 3 (by decide)) h2
  exact ⟨mont_prod h hlt ex ex,hr⟩
theorem run108:brief [] (runF (tabOf false wordPrims) (regFix 139 3 1) 2000 Try.f108 st3)=some (.normal,30,ex108,out4 26 27 28 29,[]):=by kernel_rfl
theorem meets108:PrimOk Try.prog 108 (.fadd true) :=
 meets2_words run108 Try.func108 Try.ntmps108 Try.results108 (by kernel_rfl) (by kernel_rfl) (by decide +kernel) (by decide +kernel) (by decide) fun s hH _ h1 h2 x y _ _ ex ey=>by
  obtain ⟨h,hr⟩:=holds108 hH h1 h2
  exact ⟨mont_add h ex ey,hr⟩
theorem run109:brief [] (runF (tabOf false wordPrims) (regFix 121 3 1) 2000 Try.f109 st3)=some (.normal,28,ex109,out4 18 21 23 26,[]):=by kernel_rfl
theorem meets109:PrimOk Try.prog 109 (.fsub true) :=
 meets2_words run109 Try.func109 Try.ntmps109 Try.results109 (by kernel_rfl) (by kernel_rfl) (by decide +kernel) (by decide +kernel) (by decide) fun s hH hb h1 h2 x y _ hy ex ey=>by
  obtain ⟨h,hr⟩:=holds109 hH (hb 0 (by decide)) (hb 1 (by decide)) (hb 2 (by decide)) (hb 3 (by decide)) (hb 4 (by decide)) (hb 5 (by decide)) (hb 6 (by decide)) (hb 7 (by decide)) h1 h2
  exact ⟨mont_sub h ex ey hy,hr⟩
def lit4 (a b c d:Int):List (Nat × Nat × A0):=[(0,3,.lit (.int .u64 d)),(0,2,.lit (.int .u64 c)),(0,1,.lit (.int .u64 b)),(0,0,.lit (.int .u64 a))]
theorem run95:brief [] (runF (tabOf false wordPrims) (regFix 14 1 1) 2000 Try.f95 st1)=some (.normal,0,[],lit4 18446744069414584320 18446744073709551615 0 0,[]):=by kernel_rfl
theorem lt01:0<1:=by decide
theorem meets95:PrimOk Try.prog 95 (.fone true):=by
 unfold PrimOk
 intro w b o hlt hroom
 refine meets_of_calls Try.func95 (by kernel_rfl) (by kernel_rfl) ?_
 let β:Places:=fun _=>(b,o)
 refine calls_brief (tabW_ok) run95 Try.func95 Try.ntmps95 (res:=none) ⟨.inl rfl,Try.results95⟩ (by decide) (by decide) (by decide) (by decide) (by decide) (fun _=>0) β
  (vals:=[ptrTo b o]) (fun s hs=>⟨⟨rfl,lt01⟩,trivial⟩) (fun s hs=>⟨lt01,any4_row rfl hroom,trivial⟩) ?_ ?_ (fun r q _ _ h=>by cases h) (fun _ _ _ i b h=>by cases h) ?_
 ·intro r l hl hr
  have h0:r<1:=of_decide_eq_true hr
  have:r=0:=by omega
  subst this
  cases hl
  exact any4_frz rfl hroom
 ·intro r _
  exact hlt
 ·intro s hs hH st' β' a' w' _ hag _ hbe
  refine ⟨_,rfl,(fun h=>by cases h),?_⟩
  have e:applyOut s β' w (lit4 18446744069414584320 18446744073709551615 0 0)=w.setCells b o (words (1 % pq)):=by
   have e0:lim 0 (1 % pq)=18446744069414584320:=by decide +kernel
   have e1:lim 1 (1 % pq)=18446744073709551615:=by decide +kernel
   have e2:lim 2 (1 % pq)=0:=by decide +kernel
   have e3:lim 3 (1 % pq)=0:=by decide +kernel
   have e:applyOut s β' w (lit4 18446744069414584320 18446744073709551615 0 0)=(((w.setCell (at_ β' 0 0) (.int .u64 18446744069414584320)).setCell (at_ β' 0 1) (.int .u64 18446744073709551615)).setCell (at_ β' 0 2) (.int .u64 0)).setCell (at_ β' 0 3) (.int .u64 0):=rfl
   rw [e,words,e0,e1,e2,e3]
   have hb:β' 0=(b,o):=hag 0 lt01
   simp only [at_,hb]
   rfl
  rw [e] at hbe
  exact hbe
theorem run118:brief [] (runF (tabOf false wordPrims) (regFix 68 3 1) 2000 Try.f118 stsel)=some (.normal,13,ex118,out4 9 10 11 12,[]):=by kernel_rfl
theorem meets118:PrimOk Try.prog 118 .fselv:=by
 unfold PrimOk
 intro w b o b1 o1 b2 o2 x y c hlt hroom hx hy hxl hyl hc
 refine meets_of_calls Try.func118 (by kernel_rfl) (by kernel_rfl) ?_
 let β:Places:=fun r=>if r=0 then (b,o) else if r=1 then (b1,o1) else (b2,o2)
 have in1:∀ s:Nums,(∀ i,i<9→s i=if i=0 then c else if i<5 then lim (i - 1) x else lim (i - 5) y)→s 0=c∧(∀ k,k<4→s (1+k)=lim k x)∧∀ k,k<4→s (5+k)=lim k y:=fun s hs=>by
  refine ⟨by rw [hs _ (by omega),if_pos rfl],fun k hk=>?_,fun k hk=>?_⟩
  ·rw [hs _ (by omega),if_neg (by omega),if_pos (by omega),Nat.add_sub_cancel_left]
  ·rw [hs _ (by omega),if_neg (by omega),if_neg (by omega),Nat.add_sub_cancel_left]
 refine calls_brief (tabW_ok) run118 Try.func118 Try.ntmps118 (res:=none) ⟨.inl rfl,Try.results118⟩ (by decide) (by decide) (by decide) (by decide) (by decide) (fun i=>if i=0 then c else if i<5 then lim (i - 1) x else lim (i - 5) y) β
  (vals:=[ptrTo b o,.int .u64 (c:Int),ptrTo b1 o1,ptrTo b2 o2]) (fun s hs=>⟨⟨rfl,lt03⟩,⟨by rw [(in1 s hs).1],by rw [(in1 s hs).1]; exact hc⟩,⟨rfl,lt13⟩,⟨rfl,lt23⟩,trivial⟩)
  (fun s hs=>⟨lt03,any4_row rfl hroom,lt13,w4_row rfl hx (in1 s hs).2.1,lt23,w4_row rfl hy (in1 s hs).2.2,trivial⟩) ?_ ?_ (fun r q _ _ h=>by cases h) (fun _ _ _ i b h=>by cases h) ?_
 ·intro r l hl hr
  have h0:r<1:=of_decide_eq_true hr
  have:r=0:=by omega
  subst this
  cases hl
  exact any4_frz rfl hroom
 ·intro r _
  show (if r=0 then (b,o) else if r=1 then (b1,o1) else (b2,o2)).1<_
  split
  ·exact hlt
  ·split
   ·exact World.block_lt_of_cell? w _ (hx 0 (by decide))
   ·exact World.block_lt_of_cell? w _ (hy 0 (by decide))
 ·intro s hs hH st' β' a' w' _ hag _ hbe
  obtain ⟨i0,i1,i2⟩:=in1 s hs
  obtain ⟨h1,h2,h3,h4⟩:=holds118 hH
  refine ⟨_,rfl,?_⟩
  have s1:=i1 0 (by decide)
  have s2:=i1 1 (by decide)
  have s3:=i1 2 (by decide)
  have s4:=i1 3 (by decide)
  have s5:=i2 0 (by decide)
  have s6:=i2 1 (by decide)
  have s7:=i2 2 (by decide)
  have s8:=i2 3 (by decide)
  simp only [Nat.add_zero,Nat.reduceAdd] at s1 s2 s3 s4 s5 s6 s7 s8
  rw [i0,s1,s5] at h1
  rw [i0,s2,s6] at h2
  rw [i0,s3,s7] at h3
  rw [i0,s4,s8] at h4
  rw [out4_apply (β:=β') (v:=if c=0 then x else y) (hag 0 lt03) (by split <;> rename_i hz <;> simp only [hz,if_true,if_false] at h1 h2 h3 h4 <;> exact ⟨h1,h2,h3,h4⟩)] at hbe
  exact hbe
def fiatPrims:List (Nat × Prim):=[(107,.fmul true),(106,.fsq true),(108,.fadd true),(109,.fsub true),(95,.fone true),(118,.fselv)]
theorem tabE_ok (b:Bool):(tabOf b fiatPrims).Ok Try.prog:=tab_ok _ _ fun f p h=>by
 simp only [fiatPrims,List.mem_cons,List.not_mem_nil,or_false,Prod.mk.injEq] at h
 rcases h with h | h | h | h | h | h <;> obtain ⟨rfl,rfl⟩:=h
 ·exact meets107
 ·exact meets106
 ·exact meets108
 ·exact meets109
 ·exact meets95
 ·exact meets118
end P224
/- The methods of elements: product, square, sum, difference, set, one, select, inverse. (The list of Invert's run is printed by a program of my own.) -/
namespace P224
open Go Go.RowKit Go.Proofs
set_option maxRecDepth 100000
def st3e:St:=startSt [.one (.ptr 0 0),.one (.ptr 1 0),.one (.ptr 2 0)] [(0,any4),(1,limbs 0),(2,limbs 1)] 2 3
def st2e:St:=startSt [.one (.ptr 0 0),.one (.ptr 1 0)] [(0,any4),(1,limbs 0)] 1 2
def st2i:St:=startSt [.one (.ptr 0 0),.one (.ptr 1 0)] [(0,limbs 1),(1,limbs 0)] 2 2
def stse:St:=startSt [.one (.ptr 0 0),.one (.ptr 1 0),.one (.ptr 2 0),.one (.bit .i64 2)] [(0,any4),(1,limbs 0),(2,limbs 1)] 3 3
def outL (i:Nat):List (Nat × Nat × A0):=[(0,3,.limb i 3),(0,2,.limb i 2),(0,1,.limb i 1),(0,0,.limb i 0)]
theorem limbs_row {s:Nums} {β:Places} {n r:Nat} {w:World} {b o i:Nat} (hβ:β r=(b,o)) (h:ElemAt w b o (s i)) (hs:s i<pq):RowOk s β n r w 0 (limbs i):=by
 have key:∀ k,k<4→∃ v,w.cell? (at_ β r k)=some v∧(A0.limb i k).rep s β n v:=fun k hk=>⟨_,by rw [at_,hβ]; exact h k hk,rfl,hs⟩
 exact ⟨key 0 (by decide),key 1 (by decide),key 2 (by decide),key 3 (by decide),trivial⟩
theorem limbs_frz {i:Nat} {β:Places} {r:Nat} {w:World} {b o:Nat} (hβ:β r=(b,o)) (h:RoomAt w b o):∀ j,j<(limbs i).length→w.frozen? (at_ β r j)=false:=fun j hj=>by
 rw [at_,hβ]
 exact (h j hj).2
theorem outL_apply {s:Nums} {β:Places} {w:World} {i x o:Nat} (hβ:β 0=(x,o)):applyOut s β w (outL i)=w.setCells x o (words (s i)):=by
 have e:applyOut s β w (outL i)=(((w.setCell (at_ β 0 0) (.int .u64 (lim 0 (s i):Int))).setCell (at_ β 0 1) (.int .u64 (lim 1 (s i):Int))).setCell (at_ β 0 2) (.int .u64 (lim 2 (s i):Int))).setCell (at_ β 0 3) (.int .u64 (lim 3 (s i):Int)):=rfl
 rw [e]
 simp only [at_,hβ]
 rfl
theorem meets2_elems {T:Tab} (hT:T.Ok Try.prog) {g:FuncId} {fn:Func} {nt fuel t:Nat} {e:Ex} {f:Nat→Nat→Nat}
  (hb:brief [t] (runF T (regFix nt 3 1) fuel fn st3e)=some (.ret,3,[e],outL 2,[some (.one (.ptr 0 0))])) (hf:Try.prog.funcs[g]?=some fn) (hnt:fn.ntmps=nt) (hres:fn.results=#[.tmp t])
  (hbody : fn.body.isNone = false) (hname : (fn.name == "runtime.NumGoroutine") = false) (hsc : inScope 3 [e] = true) (hn3 : 3 ≤ nt)
  (law:∀ s:Nums,e.val s=f (s 0) (s 1)):Meets2 Try.prog g false f:=by
 intro w b o b1 o1 b2 o2 x y hlt hroom hx hy hxl hyl
 refine meets_of_calls hf hbody hname ?_
 let β:Places:=fun r=>if r=0 then (b,o) else if r=1 then (b1,o1) else (b2,o2)
 have in1:∀ s:Nums,(∀ i,i<2→s i=if i=0 then x else y)→s 0=x∧s 1=y:=fun s hs=>⟨by rw [hs _ (by omega),if_pos rfl],by rw [hs _ (by omega),if_neg (by omega)]⟩
 refine calls_brief hT hb hf hnt (res:=some t) ⟨.inr rfl,hres⟩ hsc (by simp) rfl hn3 (by decide) (fun i=>if i=0 then x else y) β
  (vals:=[ptrTo b o,ptrTo b1 o1,ptrTo b2 o2]) (fun s hs=>⟨⟨rfl,lt03⟩,⟨rfl,lt13⟩,⟨rfl,lt23⟩,trivial⟩)
  (fun s hs=>⟨lt03,any4_row rfl hroom,lt13,limbs_row rfl (by rw [(in1 s hs).1]; exact hx) (by rw [(in1 s hs).1]; exact hxl),lt23,limbs_row rfl (by rw [(in1 s hs).2]; exact hy) (by rw [(in1 s hs).2]; exact hyl),trivial⟩) ?_ ?_ (fun r q _ _ h=>by cases h) (fun _ _ _ i b h=>by cases h) ?_
 ·intro r l hl hr
  have h0:r<1:=of_decide_eq_true hr
  have:r=0:=by omega
  subst this
  cases hl
  exact any4_frz rfl hroom
 ·intro r _
  show (if r=0 then (b,o) else if r=1 then (b1,o1) else (b2,o2)).1<_
  split
  ·exact hlt
  ·split
   ·exact World.block_lt_of_cell? w _ (hx 0 (by decide))
   ·exact World.block_lt_of_cell? w _ (hy 0 (by decide))
 ·intro s hs hH st' β' a' w' hts hag hr hbe
  obtain ⟨i0,i1⟩:=in1 s hs
  obtain ⟨hv,_⟩:=hr.tm t _ (map_get hts 0 t _ rfl rfl)
  have hb0:β' 0=(b,o):=hag 0 lt03
  have e2:s 2=f x y:=by
   have:s 2=e.val s:=hH.1
   rw [this,law,i0,i1]
  refine ⟨_,rfl,fun _=>?_,?_⟩
  ·show a'.tmps.getD t undef=_
   rw [hv,at_,hb0]
   rfl
  ·rw [outL_apply hb0,e2] at hbe
   exact hbe
theorem meets1_elems {T:Tab} (hT:T.Ok Try.prog) {g:FuncId} {fn:Func} {nt fuel t nx i:Nat} {l:List Ex} {f:Nat→Nat}
  (hb:brief [t] (runF T (regFix nt 2 1) fuel fn st2e)=some (.ret,nx,l,outL i,[some (.one (.ptr 0 0))])) (hf:Try.prog.funcs[g]?=some fn) (hnt:fn.ntmps=nt) (hres:fn.results=#[.tmp t])
  (hbody : fn.body.isNone = false) (hname : (fn.name == "runtime.NumGoroutine") = false) (hsc : inScope nx l = true) (hle : l.length + 1 = nx) (hn3 : 2 ≤ nt)
  (law:∀ s:Nums,s 0<pq→Holds s nx l→s i=f (s 0)):Meets1 Try.prog g false f:=by
 intro w b o b1 o1 x hlt hroom hx hxl
 refine meets_of_calls hf hbody hname ?_
 let β:Places:=fun r=>if r=0 then (b,o) else (b1,o1)
 have in1:∀ s:Nums,(∀ i,i<1→s i=x)→s 0=x:=fun s hs=>hs 0 (by decide)
 refine calls_brief hT hb hf hnt (res:=some t) ⟨.inr rfl,hres⟩ hsc (by omega) (by omega) hn3 (by decide) (fun _=>x) β
  (vals:=[ptrTo b o,ptrTo b1 o1]) (fun s hs=>⟨⟨rfl,lt02⟩,⟨rfl,lt12⟩,trivial⟩)
  (fun s hs=>⟨lt02,any4_row rfl hroom,lt12,limbs_row rfl (by rw [in1 s hs]; exact hx) (by rw [in1 s hs]; exact hxl),trivial⟩) ?_ ?_ (fun r q _ _ h=>by cases h) (fun _ _ _ i b h=>by cases h) ?_
 ·intro r l hl hr
  have h0:r<1:=of_decide_eq_true hr
  have:r=0:=by omega
  subst this
  cases hl
  exact any4_frz rfl hroom
 ·intro r _
  show (if r=0 then (b,o) else (b1,o1)).1<_
  split
  ·exact hlt
  ·exact World.block_lt_of_cell? w _ (hx 0 (by decide))
 ·intro s hs hH st' β' a' w' hts hag hr hbe
  have i0:=in1 s hs
  obtain ⟨hv,_⟩:=hr.tm t _ (map_get hts 0 t _ rfl rfl)
  have hb0:β' 0=(b,o):=hag 0 lt02
  have e2:s i=f x:=by rw [law s (by rw [i0]; exact hxl) hH,i0]
  refine ⟨_,rfl,fun _=>?_,?_⟩
  ·show a'.tmps.getD t undef=_
   rw [hv,at_,hb0]
   rfl
  ·rw [outL_apply hb0,e2] at hbe
   exact hbe
theorem run89:brief [6] (runF (tabOf true fiatPrims) (regFix 18 3 1) 2000 Try.f89 st3e)=some (.ret,3,[.fmul (.v 0) (.v 1)],outL 2,[some (.one (.ptr 0 0))]):=by kernel_rfl
theorem meets89:PrimOk Try.prog 89 (.fmul false):=meets2_elems (tabE_ok true) run89 Try.func89 Try.ntmps89 Try.results89 (by kernel_rfl) (by kernel_rfl) (by decide) (by decide) fun _=>rfl
theorem run90:brief [6] (runF (tabOf true fiatPrims) (regFix 18 3 1) 2000 Try.f90 st3e)=some (.ret,3,[.fadd (.v 0) (.v 1)],outL 2,[some (.one (.ptr 0 0))]):=by kernel_rfl
theorem meets90:PrimOk Try.prog 90 (.fadd false):=meets2_elems (tabE_ok true) run90 Try.func90 Try.ntmps90 Try.results90 (by kernel_rfl) (by kernel_rfl) (by decide) (by decide) fun _=>rfl
theorem run92:brief [6] (runF (tabOf true fiatPrims) (regFix 18 3 1) 2000 Try.f92 st3e)=some (.ret,3,[.fsub (.v 0) (.v 1)],outL 2,[some (.one (.ptr 0 0))]):=by kernel_rfl
theorem meets92:PrimOk Try.prog 92 (.fsub false):=meets2_elems (tabE_ok true) run92 Try.func92 Try.ntmps92 Try.results92 (by kernel_rfl) (by kernel_rfl) (by decide) (by decide) fun _=>rfl
theorem run88:brief [4] (runF (tabOf true fiatPrims) (regFix 13 2 1) 2000 Try.f88 st2e)=some (.ret,2,[.fmul (.v 0) (.v 0)],outL 1,[some (.one (.ptr 0 0))]):=by kernel_rfl
theorem meets88:PrimOk Try.prog 88 (.fsq false):=meets1_elems (tabE_ok true) run88 Try.func88 Try.ntmps88 Try.results88 (by kernel_rfl) (by kernel_rfl) (by decide) (by decide) (by decide) fun _ _ h=>h.1
theorem run93:brief [4] (runF (tabOf true fiatPrims) (regFix 13 2 1) 2000 Try.f93 st2e)=some (.ret,1,[],outL 0,[some (.one (.ptr 0 0))]):=by kernel_rfl
theorem meets93:PrimOk Try.prog 93 .fset:=meets1_elems (tabE_ok true) run93 Try.func93 Try.ntmps93 Try.results93 (by kernel_rfl) (by kernel_rfl) (by decide) (by decide) (by decide) fun _ _ _=>rfl
theorem run77:brief [2] (runF (tabOf true fiatPrims) (regFix 8 1 1) 2000 Try.f77 st1)=some (.ret,1,[.fcst 1],outL 0,[some (.one (.ptr 0 0))]):=by kernel_rfl
theorem meets77:PrimOk Try.prog 77 (.fone false):=by
 unfold PrimOk
 intro w b o hlt hroom
 refine meets_of_calls Try.func77 (by kernel_rfl) (by kernel_rfl) ?_
 refine calls_brief (tabE_ok true) run77 Try.func77 Try.ntmps77 (res:=some 2) ⟨.inr rfl,Try.results77⟩ (by decide) (by decide) (by decide) (by decide) (by decide) (fun _=>0) (fun _=>(b,o))
  (vals:=[ptrTo b o]) (fun s hs=>⟨⟨rfl,lt01⟩,trivial⟩) (fun s hs=>⟨lt01,any4_row rfl hroom,trivial⟩) ?_ (fun r _=>hlt) (fun r q _ _ h=>by cases h) (fun _ _ _ i b h=>by cases h) ?_
 ·intro r l hl hr
  have h0:r<1:=of_decide_eq_true hr
  have:r=0:=by omega
  subst this
  cases hl
  exact any4_frz rfl hroom
 ·intro s hs hH st' β' a' w' hts hag hr hbe
  obtain ⟨hv,_⟩:=hr.tm 2 _ (map_get hts 0 2 _ rfl rfl)
  have hb0:β' 0=(b,o):=hag 0 lt01
  have e2:s 0=1 % pq:=hH.1
  refine ⟨_,rfl,fun _=>?_,?_⟩
  ·show a'.tmps.getD 2 undef=_
   rw [hv,at_,hb0]
   rfl
  ·rw [outL_apply hb0,e2] at hbe
   exact hbe
theorem run105:brief [8] (runF (tabOf true fiatPrims) (regFix 22 3 1) 2000 Try.f105 stse)=some (.ret,4,[.sel (.v 2) (.v 1) (.v 0)],outL 3,[some (.one (.ptr 0 0))]):=by kernel_rfl
theorem meets105:PrimOk Try.prog 105 .fsel:=by
 unfold PrimOk
 intro w b o b1 o1 b2 o2 x y c hlt hroom hx hy hxl hyl hc
 refine meets_of_calls Try.func105 (by kernel_rfl) (by kernel_rfl) ?_
 let β:Places:=fun r=>if r=0 then (b,o) else if r=1 then (b1,o1) else (b2,o2)
 have in1:∀ s:Nums,(∀ i,i<3→s i=if i=0 then x else if i=1 then y else c)→s 0=x∧s 1=y∧s 2=c:=fun s hs=>⟨by rw [hs _ (by omega),if_pos rfl],by rw [hs _ (by omega),if_neg (by omega),if_pos rfl],by rw [hs _ (by omega),if_neg (by omega),if_neg (by omega)]⟩
 refine calls_brief (tabE_ok true) run105 Try.func105 Try.ntmps105 (res:=some 8) ⟨.inr rfl,Try.results105⟩ (by decide) (by decide) (by decide) (by decide) (by decide) (fun i=>if i=0 then x else if i=1 then y else c) β
  (vals:=[ptrTo b o,ptrTo b1 o1,ptrTo b2 o2,.int .i64 (c:Int)]) (fun s hs=>⟨⟨rfl,lt03⟩,⟨rfl,lt13⟩,⟨rfl,lt23⟩,⟨by rw [(in1 s hs).2.2],by rw [(in1 s hs).2.2]; exact hc⟩,trivial⟩)
  (fun s hs=>⟨lt03,any4_row rfl hroom,lt13,limbs_row rfl (by rw [(in1 s hs).1]; exact hx) (by rw [(in1 s hs).1]; exact hxl),lt23,limbs_row rfl (by rw [(in1 s hs).2.1]; exact hy) (by rw [(in1 s hs).2.1]; exact hyl),trivial⟩) ?_ ?_ (fun r q _ _ h=>by cases h) (fun _ _ _ i b h=>by cases h) ?_
 ·intro r l hl hr
  have h0:r<1:=of_decide_eq_true hr
  have:r=0:=by omega
  subst this
  cases hl
  exact any4_frz rfl hroom
 ·intro r _
  show (if r=0 then (b,o) else if r=1 then (b1,o1) else (b2,o2)).1<_
  split
  ·exact hlt
  ·split
   ·exact World.block_lt_of_cell? w _ (hx 0 (by decide))
   ·exact World.block_lt_of_cell? w _ (hy 0 (by decide))
 ·intro s hs hH st' β' a' w' hts hag hr hbe
  obtain ⟨i0,i1,i2⟩:=in1 s hs
  obtain ⟨hv,_⟩:=hr.tm 8 _ (map_get hts 0 8 _ rfl rfl)
  have hb0:β' 0=(b,o):=hag 0 lt03
  have e2:s 3=if c=0 then y else x:=by
   have:s 3=if s 2=0 then s 1 else s 0:=hH.1
   rw [this,i0,i1,i2]
  refine ⟨_,rfl,?_,?_⟩
  ·show a'.tmps.getD 8 undef=_
   rw [hv,at_,hb0]
   rfl
  ·rw [outL_apply hb0,e2] at hbe
   exact hbe
def elemPrims0:List (Nat × Prim):=[(89,.fmul false),(88,.fsq false),(90,.fadd false),(92,.fsub false),(93,.fset),(77,.fone false),(105,.fsel)]
theorem tabE0_ok (b:Bool):(tabOf b elemPrims0).Ok Try.prog:=tab_ok _ _ fun f p h=>by
 simp only [elemPrims0,List.mem_cons,List.not_mem_nil,or_false,Prod.mk.injEq] at h
 rcases h with h | h | h | h | h | h | h <;> obtain ⟨rfl,rfl⟩:=h
 ·exact meets89
 ·exact meets88
 ·exact meets90
 ·exact meets92
 ·exact meets93
 ·exact meets77
 ·exact meets105
def expoAt (M:List (Option Nat)) (i:Nat):Option Nat:=if i<M.length then (M[M.length - 1 - i]?).bind id else none
def expoStep (M:List (Option Nat)):Ex→Option Nat
 | .fmul (.v i) (.v j)=>match expoAt M i,expoAt M j with
  | some a,some b=>some (a+b)
  | _,_=>none
 | _=>none
def expos (base:List (Option Nat)):List Ex→List (Option Nat)
 | []=>base
 | e :: l=>expoStep (expos base l) e :: expos base l
theorem expos_length (base:List (Option Nat)):∀ l,(expos base l).length=l.length+base.length
 | []=>by simp [expos]
 | e :: l=>by simp [expos,expos_length base l]; omega
theorem expoAt_lt {M:List (Option Nat)} {i e:Nat} (h:expoAt M i=some e):i<M.length:=by
 unfold expoAt at h
 split at h
 ·assumption
 ·cases h
theorem expos_spec {s:Nums} {x:Nat} {base:List (Option Nat)} (hbase:∀ i e,expoAt base i=some e→s i=x ^ e % pq) :
  ∀ (l:List Ex),Holds s (l.length+base.length) l→∀ i e,expoAt (expos base l) i=some e→s i=x ^ e % pq
 | [],_,i,e,he=>hbase i e he
 | y :: l,h,i,e,he=>by
  obtain ⟨h1,h2⟩:=h
  have hn:(y :: l).length+base.length - 1=l.length+base.length:=by simp only [List.length_cons]; omega
  rw [hn] at h1 h2
  have hi:=expoAt_lt he
  rw [expos_length] at hi
  simp only [List.length_cons] at hi
  by_cases hlast:i=l.length+base.length
  ·subst hlast
   have e1:expoAt (expos base (y :: l)) (l.length+base.length)=expoStep (expos base l) y:=by
    unfold expoAt
    rw [expos_length,if_pos (by simp only [List.length_cons]; omega),show (y :: l).length+base.length - 1 - (l.length+base.length)=0 by simp only [List.length_cons]; omega]
    rfl
   rw [e1] at he
   clear e1 hi
   unfold expoStep at he
   split at he
   ·rename_i i' j'
    split at he
    ·rename_i a b ha hb
     cases he
     rw [h1]
     show s i'*s j' % pq=_
     rw [expos_spec hbase l h2 i' a ha,expos_spec hbase l h2 j' b hb,← Nat.mul_mod,Nat.pow_add]
    ·cases he
   ·cases he
  ·refine expos_spec hbase l h2 i e ?_
   rw [← he]
   unfold expoAt
   rw [expos_length,expos_length,if_pos (by omega),if_pos (by simp only [List.length_cons]; omega),show (y :: l).length+base.length - 1 - i=(l.length+base.length - 1 - i)+1 by simp only [List.length_cons]; omega]
   rfl
def ex99:List Ex:=[
.fmul (.v 109) (.v 238),
.fmul (.v 237) (.v 237),
.fmul (.v 236) (.v 236),
.fmul (.v 235) (.v 235),
.fmul (.v 234) (.v 234),
.fmul (.v 233) (.v 233),
.fmul (.v 232) (.v 232),
.fmul (.v 231) (.v 231),
.fmul (.v 230) (.v 230),
.fmul (.v 229) (.v 229),
.fmul (.v 228) (.v 228),
.fmul (.v 227) (.v 227),
.fmul (.v 226) (.v 226),
.fmul (.v 225) (.v 225),
.fmul (.v 224) (.v 224),
.fmul (.v 223) (.v 223),
.fmul (.v 222) (.v 222),
.fmul (.v 221) (.v 221),
.fmul (.v 220) (.v 220),
.fmul (.v 219) (.v 219),
.fmul (.v 218) (.v 218),
.fmul (.v 217) (.v 217),
.fmul (.v 216) (.v 216),
.fmul (.v 215) (.v 215),
.fmul (.v 214) (.v 214),
.fmul (.v 213) (.v 213),
.fmul (.v 212) (.v 212),
.fmul (.v 211) (.v 211),
.fmul (.v 210) (.v 210),
.fmul (.v 209) (.v 209),
.fmul (.v 208) (.v 208),
.fmul (.v 207) (.v 207),
.fmul (.v 206) (.v 206),
.fmul (.v 205) (.v 205),
.fmul (.v 204) (.v 204),
.fmul (.v 203) (.v 203),
.fmul (.v 202) (.v 202),
.fmul (.v 201) (.v 201),
.fmul (.v 200) (.v 200),
.fmul (.v 199) (.v 199),
.fmul (.v 198) (.v 198),
.fmul (.v 197) (.v 197),
.fmul (.v 196) (.v 196),
.fmul (.v 195) (.v 195),
.fmul (.v 194) (.v 194),
.fmul (.v 193) (.v 193),
.fmul (.v 192) (.v 192),
.fmul (.v 191) (.v 191),
.fmul (.v 190) (.v 190),
.fmul (.v 189) (.v 189),
.fmul (.v 188) (.v 188),
.fmul (.v 187) (.v 187),
.fmul (.v 186) (.v 186),
.fmul (.v 185) (.v 185),
.fmul (.v 184) (.v 184),
.fmul (.v 183) (.v 183),
.fmul (.v 182) (.v 182),
.fmul (.v 181) (.v 181),
.fmul (.v 180) (.v 180),
.fmul (.v 179) (.v 179),
.fmul (.v 178) (.v 178),
.fmul (.v 177) (.v 177),
.fmul (.v 176) (.v 176),
.fmul (.v 175) (.v 175),
.fmul (.v 174) (.v 174),
.fmul (.v 173) (.v 173),
.fmul (.v 172) (.v 172),
.fmul (.v 171) (.v 171),
.fmul (.v 170) (.v 170),
.fmul (.v 169) (.v 169),
.fmul (.v 168) (.v 168),
.fmul (.v 167) (.v 167),
.fmul (.v 166) (.v 166),
.fmul (.v 165) (.v 165),
.fmul (.v 164) (.v 164),
.fmul (.v 163) (.v 163),
.fmul (.v 162) (.v 162),
.fmul (.v 161) (.v 161),
.fmul (.v 160) (.v 160),
.fmul (.v 159) (.v 159),
.fmul (.v 158) (.v 158),
.fmul (.v 157) (.v 157),
.fmul (.v 156) (.v 156),
.fmul (.v 155) (.v 155),
.fmul (.v 154) (.v 154),
.fmul (.v 153) (.v 153),
.fmul (.v 152) (.v 152),
.fmul (.v 151) (.v 151),
.fmul (.v 150) (.v 150),
.fmul (.v 149) (.v 149),
.fmul (.v 148) (.v 148),
.fmul (.v 147) (.v 147),
.fmul (.v 146) (.v 146),
.fmul (.v 145) (.v 145),
.fmul (.v 144) (.v 144),
.fmul (.v 143) (.v 143),
.fmul (.v 142) (.v 142),
.fmul (.v 141) (.v 141),
.fmul (.v 42) (.v 140),
.fmul (.v 139) (.v 139),
.fmul (.v 138) (.v 138),
.fmul (.v 137) (.v 137),
.fmul (.v 136) (.v 136),
.fmul (.v 135) (.v 135),
.fmul (.v 134) (.v 134),
.fmul (.v 133) (.v 133),
.fmul (.v 132) (.v 132),
.fmul (.v 131) (.v 131),
.fmul (.v 130) (.v 130),
.fmul (.v 129) (.v 129),
.fmul (.v 128) (.v 128),
.fmul (.v 127) (.v 127),
.fmul (.v 126) (.v 126),
.fmul (.v 125) (.v 125),
.fmul (.v 124) (.v 124),
.fmul (.v 123) (.v 123),
.fmul (.v 122) (.v 122),
.fmul (.v 121) (.v 121),
.fmul (.v 120) (.v 120),
.fmul (.v 119) (.v 119),
.fmul (.v 118) (.v 118),
.fmul (.v 117) (.v 117),
.fmul (.v 116) (.v 116),
.fmul (.v 115) (.v 115),
.fmul (.v 114) (.v 114),
.fmul (.v 113) (.v 113),
.fmul (.v 112) (.v 112),
.fmul (.v 111) (.v 111),
.fmul (.v 110) (.v 110),
.fmul (.v 109) (.v 109),
.fmul (.v 60) (.v 108),
.fmul (.v 107) (.v 107),
.fmul (.v 106) (.v 106),
.fmul (.v 105) (.v 105),
.fmul (.v 104) (.v 104),
.fmul (.v 103) (.v 103),
.fmul (.v 102) (.v 102),
.fmul (.v 101) (.v 101),
.fmul (.v 100) (.v 100),
.fmul (.v 99) (.v 99),
.fmul (.v 98) (.v 98),
.fmul (.v 97) (.v 97),
.fmul (.v 96) (.v 96),
.fmul (.v 95) (.v 95),
.fmul (.v 94) (.v 94),
.fmul (.v 93) (.v 93),
.fmul (.v 92) (.v 92),
.fmul (.v 91) (.v 91),
.fmul (.v 90) (.v 90),
.fmul (.v 89) (.v 89),
.fmul (.v 88) (.v 88),
.fmul (.v 87) (.v 87),
.fmul (.v 86) (.v 86),
.fmul (.v 85) (.v 85),
.fmul (.v 84) (.v 84),
.fmul (.v 83) (.v 83),
.fmul (.v 82) (.v 82),
.fmul (.v 81) (.v 81),
.fmul (.v 80) (.v 80),
.fmul (.v 79) (.v 79),
.fmul (.v 78) (.v 78),
.fmul (.v 77) (.v 77),
.fmul (.v 76) (.v 76),
.fmul (.v 75) (.v 75),
.fmul (.v 74) (.v 74),
.fmul (.v 73) (.v 73),
.fmul (.v 72) (.v 72),
.fmul (.v 71) (.v 71),
.fmul (.v 70) (.v 70),
.fmul (.v 69) (.v 69),
.fmul (.v 68) (.v 68),
.fmul (.v 67) (.v 67),
.fmul (.v 66) (.v 66),
.fmul (.v 65) (.v 65),
.fmul (.v 64) (.v 64),
.fmul (.v 63) (.v 63),
.fmul (.v 62) (.v 62),
.fmul (.v 61) (.v 61),
.fmul (.v 60) (.v 60),
.fmul (.v 27) (.v 59),
.fmul (.v 58) (.v 58),
.fmul (.v 57) (.v 57),
.fmul (.v 56) (.v 56),
.fmul (.v 55) (.v 55),
.fmul (.v 54) (.v 54),
.fmul (.v 53) (.v 53),
.fmul (.v 52) (.v 52),
.fmul (.v 51) (.v 51),
.fmul (.v 50) (.v 50),
.fmul (.v 49) (.v 49),
.fmul (.v 48) (.v 48),
.fmul (.v 47) (.v 47),
.fmul (.v 46) (.v 46),
.fmul (.v 45) (.v 45),
.fmul (.v 44) (.v 44),
.fmul (.v 43) (.v 43),
.fmul (.v 42) (.v 42),
.fmul (.v 23) (.v 41),
.fmul (.v 40) (.v 40),
.fmul (.v 39) (.v 39),
.fmul (.v 38) (.v 38),
.fmul (.v 37) (.v 37),
.fmul (.v 36) (.v 36),
.fmul (.v 35) (.v 35),
.fmul (.v 34) (.v 34),
.fmul (.v 33) (.v 33),
.fmul (.v 32) (.v 32),
.fmul (.v 31) (.v 31),
.fmul (.v 30) (.v 30),
.fmul (.v 29) (.v 29),
.fmul (.v 28) (.v 28),
.fmul (.v 27) (.v 27),
.fmul (.v 9) (.v 26),
.fmul (.v 25) (.v 25),
.fmul (.v 24) (.v 24),
.fmul (.v 23) (.v 23),
.fmul (.v 7) (.v 22),
.fmul (.v 21) (.v 21),
.fmul (.v 20) (.v 20),
.fmul (.v 13) (.v 19),
.fmul (.v 18) (.v 18),
.fmul (.v 17) (.v 17),
.fmul (.v 16) (.v 16),
.fmul (.v 15) (.v 15),
.fmul (.v 14) (.v 14),
.fmul (.v 13) (.v 13),
.fmul (.v 9) (.v 12),
.fmul (.v 11) (.v 11),
.fmul (.v 10) (.v 10),
.fmul (.v 9) (.v 9),
.fmul (.v 0) (.v 8),
.fmul (.v 7) (.v 7),
.fmul (.v 0) (.v 6),
.fmul (.v 0) (.v 0),
.fcst 0,
.fcst 0,
.fcst 0,
.fcst 0]
theorem run99:brief [4] (runF (tabOf true elemPrims0) (regFix 161 2 1) 20000 Try.f99 st2i)=some (.ret,240,ex99,outL 239,[some (.one (.ptr 0 0))]):=by kernel_rfl
theorem expo99:expoAt (expos [none,some 1] ex99) 239=some (pq - 2):=by decide +kernel
theorem holds99 {s:Nums} (h:Holds s 240 ex99) (h0:s 0<pq):s 239=finvq (s 0):=by
 rw [finvq_def]
 refine expos_spec (base:=[none,some 1]) (fun i e he=>?_) ex99 h 239 _ expo99
 have hi:=expoAt_lt he
 simp only [List.length_cons,List.length_nil] at hi
 have:i=0∨i=1:=by omega
 rcases this with rfl | rfl
 ·cases he
  rw [Nat.pow_one,Nat.mod_eq_of_lt h0]
 ·cases he
theorem meets99:PrimOk Try.prog 99 .finv:=by
 unfold PrimOk
 intro w b o b1 o1 x z hlt hroom hz hzl hx hxl
 refine meets_of_calls Try.func99 (by kernel_rfl) (by kernel_rfl) ?_
 let β:Places:=fun r=>if r=0 then (b,o) else (b1,o1)
 have in1:∀ s:Nums,(∀ i,i<2→s i=if i=0 then x else z)→s 0=x∧s 1=z:=fun s hs=>⟨by rw [hs _ (by omega),if_pos rfl],by rw [hs _ (by omega),if_neg (by omega)]⟩
 refine calls_brief (tabE0_ok true) run99 Try.func99 Try.ntmps99 (res:=some 4) ⟨.inr rfl,Try.results99⟩ (by decide +kernel) (by decide +kernel) (by decide +kernel) (by decide) (by decide) (fun i=>if i=0 then x else z) β
  (vals:=[ptrTo b o,ptrTo b1 o1]) (fun s hs=>⟨⟨rfl,lt02⟩,⟨rfl,lt12⟩,trivial⟩)
  (fun s hs=>⟨lt02,limbs_row rfl (by rw [(in1 s hs).2]; exact hz) (by rw [(in1 s hs).2]; exact hzl),lt12,limbs_row rfl (by rw [(in1 s hs).1]; exact hx) (by rw [(in1 s hs).1]; exact hxl),trivial⟩) ?_ ?_ (fun r q _ _ h=>by cases h) (fun _ _ _ i b h=>by cases h) ?_
 ·intro r l hl hr
  have h0:r<1:=of_decide_eq_true hr
  have:r=0:=by omega
  subst this
  cases hl
  exact limbs_frz rfl hroom
 ·intro r _
  show (if r=0 then (b,o) else (b1,o1)).1<_
  split
  ·exact hlt
  ·exact World.block_lt_of_cell? w _ (hx 0 (by decide))
 ·intro s hs hH st' β' a' w' hts hag hr hbe
  obtain ⟨i0,_⟩:=in1 s hs
  obtain ⟨hv,_⟩:=hr.tm 4 _ (map_get hts 0 4 _ rfl rfl)
  have hb0:β' 0=(b,o):=hag 0 lt02
  have e2:s 239=finvq x:=by rw [holds99 hH (by rw [i0]; exact hxl),i0]
  refine ⟨_,rfl,?_,?_⟩
  ·show a'.tmps.getD 4 undef=_
   rw [hv,at_,hb0]
   rfl
  ·rw [outL_apply hb0,e2] at hbe
   exact hbe
end P224
/- PRINTED BY A PROGRAM OF MY OWN (gen/f8.py): constantTimeCompare. -/
namespace P224
open Go Go.RowKit Go.Proofs
set_option maxRecDepth 100000
theorem xor_zero_iff {x y:Nat}:x ^^^ y=0↔x=y:=by
 constructor
 ·intro h
  have:(x ^^^ y) ^^^ y=0 ^^^ y:=by rw [h]
  rwa [Nat.xor_assoc,Nat.xor_self,Nat.xor_zero,Nat.zero_xor] at this
 ·intro h
  rw [h,Nat.xor_self]
theorem or_step {a b c x y:Nat} (e:c=a ||| b) (e':b=x ^^^ y):c=0↔a=0∧x=y:=by
 rw [e,e',Nat.or_eq_zero_iff,xor_zero_iff]
def ex114:List Ex:=[
.feq (.v 111) (.c 0),
.or (.v 109) (.v 110),
.xor (.v 27) (.v 55),
.or (.v 107) (.v 108),
.xor (.v 26) (.v 54),
.or (.v 105) (.v 106),
.xor (.v 25) (.v 53),
.or (.v 103) (.v 104),
.xor (.v 24) (.v 52),
.or (.v 101) (.v 102),
.xor (.v 23) (.v 51),
.or (.v 99) (.v 100),
.xor (.v 22) (.v 50),
.or (.v 97) (.v 98),
.xor (.v 21) (.v 49),
.or (.v 95) (.v 96),
.xor (.v 20) (.v 48),
.or (.v 93) (.v 94),
.xor (.v 19) (.v 47),
.or (.v 91) (.v 92),
.xor (.v 18) (.v 46),
.or (.v 89) (.v 90),
.xor (.v 17) (.v 45),
.or (.v 87) (.v 88),
.xor (.v 16) (.v 44),
.or (.v 85) (.v 86),
.xor (.v 15) (.v 43),
.or (.v 83) (.v 84),
.xor (.v 14) (.v 42),
.or (.v 81) (.v 82),
.xor (.v 13) (.v 41),
.or (.v 79) (.v 80),
.xor (.v 12) (.v 40),
.or (.v 77) (.v 78),
.xor (.v 11) (.v 39),
.or (.v 75) (.v 76),
.xor (.v 10) (.v 38),
.or (.v 73) (.v 74),
.xor (.v 9) (.v 37),
.or (.v 71) (.v 72),
.xor (.v 8) (.v 36),
.or (.v 69) (.v 70),
.xor (.v 7) (.v 35),
.or (.v 67) (.v 68),
.xor (.v 6) (.v 34),
.or (.v 65) (.v 66),
.xor (.v 5) (.v 33),
.or (.v 63) (.v 64),
.xor (.v 4) (.v 32),
.or (.v 61) (.v 62),
.xor (.v 3) (.v 31),
.or (.v 59) (.v 60),
.xor (.v 2) (.v 30),
.or (.v 57) (.v 58),
.xor (.v 1) (.v 29),
.or (.c 0) (.v 56),
.xor (.v 0) (.v 28)]
open Classical in
theorem holds114 {s:Nums} (h:Holds s 113 ex114):s 112=if (∀ k,k<28→s k=s (28+k)) then 1 else 0:=by
 have e56:s 56=s 0 ^^^ s 28:=h.at 56 56 (.xor (.v 0) (.v 28)) rfl rfl
 have e57:s 57=0 ||| s 56:=h.at 55 57 (.or (.c 0) (.v 56)) rfl rfl
 have e58:s 58=s 1 ^^^ s 29:=h.at 54 58 (.xor (.v 1) (.v 29)) rfl rfl
 have e59:s 59=s 57 ||| s 58:=h.at 53 59 (.or (.v 57) (.v 58)) rfl rfl
 have e60:s 60=s 2 ^^^ s 30:=h.at 52 60 (.xor (.v 2) (.v 30)) rfl rfl
 have e61:s 61=s 59 ||| s 60:=h.at 51 61 (.or (.v 59) (.v 60)) rfl rfl
 have e62:s 62=s 3 ^^^ s 31:=h.at 50 62 (.xor (.v 3) (.v 31)) rfl rfl
 have e63:s 63=s 61 ||| s 62:=h.at 49 63 (.or (.v 61) (.v 62)) rfl rfl
 have e64:s 64=s 4 ^^^ s 32:=h.at 48 64 (.xor (.v 4) (.v 32)) rfl rfl
 have e65:s 65=s 63 ||| s 64:=h.at 47 65 (.or (.v 63) (.v 64)) rfl rfl
 have e66:s 66=s 5 ^^^ s 33:=h.at 46 66 (.xor (.v 5) (.v 33)) rfl rfl
 have e67:s 67=s 65 ||| s 66:=h.at 45 67 (.or (.v 65) (.v 66)) rfl rfl
 have e68:s 68=s 6 ^^^ s 34:=h.at 44 68 (.xor (.v 6) (.v 34)) rfl rfl
 have e69:s 69=s 67 ||| s 68:=h.at 43 69 (.or (.v 67) (.v 68)) rfl rfl
 have e70:s 70=s 7 ^^^ s 35:=h.at 42 70 (.xor (.v 7) (.v 35)) rfl rfl
 have e71:s 71=s 69 ||| s 70:=h.at 41 71 (.or (.v 69) (.v 70)) rfl rfl
 have e72:s 72=s 8 ^^^ s 36:=h.at 40 72 (.xor (.v 8) (.v 36)) rfl rfl
 have e73:s 73=s 71 ||| s 72:=h.at 39 73 (.or (.v 71) (.v 72)) rfl rfl
 have e74:s 74=s 9 ^^^ s 37:=h.at 38 74 (.xor (.v 9) (.v 37)) rfl rfl
 have e75:s 75=s 73 ||| s 74:=h.at 37 75 (.or (.v 73) (.v 74)) rfl rfl
 have e76:s 76=s 10 ^^^ s 38:=h.at 36 76 (.xor (.v 10) (.v 38)) rfl rfl
 have e77:s 77=s 75 ||| s 76:=h.at 35 77 (.or (.v 75) (.v 76)) rfl rfl
 have e78:s 78=s 11 ^^^ s 39:=h.at 34 78 (.xor (.v 11) (.v 39)) rfl rfl
 have e79:s 79=s 77 ||| s 78:=h.at 33 79 (.or (.v 77) (.v 78)) rfl rfl
 have e80:s 80=s 12 ^^^ s 40:=h.at 32 80 (.xor (.v 12) (.v 40)) rfl rfl
 have e81:s 81=s 79 ||| s 80:=h.at 31 81 (.or (.v 79) (.v 80)) rfl rfl
 have e82:s 82=s 13 ^^^ s 41:=h.at 30 82 (.xor (.v 13) (.v 41)) rfl rfl
 have e83:s 83=s 81 ||| s 82:=h.at 29 83 (.or (.v 81) (.v 82)) rfl rfl
 have e84:s 84=s 14 ^^^ s 42:=h.at 28 84 (.xor (.v 14) (.v 42)) rfl rfl
 have e85:s 85=s 83 ||| s 84:=h.at 27 85 (.or (.v 83) (.v 84)) rfl rfl
 have e86:s 86=s 15 ^^^ s 43:=h.at 26 86 (.xor (.v 15) (.v 43)) rfl rfl
 have e87:s 87=s 85 ||| s 86:=h.at 25 87 (.or (.v 85) (.v 86)) rfl rfl
 have e88:s 88=s 16 ^^^ s 44:=h.at 24 88 (.xor (.v 16) (.v 44)) rfl rfl
 have e89:s 89=s 87 ||| s 88:=h.at 23 89 (.or (.v 87) (.v 88)) rfl rfl
 have e90:s 90=s 17 ^^^ s 45:=h.at 22 90 (.xor (.v 17) (.v 45)) rfl rfl
 have e91:s 91=s 89 ||| s 90:=h.at 21 91 (.or (.v 89) (.v 90)) rfl rfl
 have e92:s 92=s 18 ^^^ s 46:=h.at 20 92 (.xor (.v 18) (.v 46)) rfl rfl
 have e93:s 93=s 91 ||| s 92:=h.at 19 93 (.or (.v 91) (.v 92)) rfl rfl
 have e94:s 94=s 19 ^^^ s 47:=h.at 18 94 (.xor (.v 19) (.v 47)) rfl rfl
 have e95:s 95=s 93 ||| s 94:=h.at 17 95 (.or (.v 93) (.v 94)) rfl rfl
 have e96:s 96=s 20 ^^^ s 48:=h.at 16 96 (.xor (.v 20) (.v 48)) rfl rfl
 have e97:s 97=s 95 ||| s 96:=h.at 15 97 (.or (.v 95) (.v 96)) rfl rfl
 have e98:s 98=s 21 ^^^ s 49:=h.at 14 98 (.xor (.v 21) (.v 49)) rfl rfl
 have e99:s 99=s 97 ||| s 98:=h.at 13 99 (.or (.v 97) (.v 98)) rfl rfl
 have e100:s 100=s 22 ^^^ s 50:=h.at 12 100 (.xor (.v 22) (.v 50)) rfl rfl
 have e101:s 101=s 99 ||| s 100:=h.at 11 101 (.or (.v 99) (.v 100)) rfl rfl
 have e102:s 102=s 23 ^^^ s 51:=h.at 10 102 (.xor (.v 23) (.v 51)) rfl rfl
 have e103:s 103=s 101 ||| s 102:=h.at 9 103 (.or (.v 101) (.v 102)) rfl rfl
 have e104:s 104=s 24 ^^^ s 52:=h.at 8 104 (.xor (.v 24) (.v 52)) rfl rfl
 have e105:s 105=s 103 ||| s 104:=h.at 7 105 (.or (.v 103) (.v 104)) rfl rfl
 have e106:s 106=s 25 ^^^ s 53:=h.at 6 106 (.xor (.v 25) (.v 53)) rfl rfl
 have e107:s 107=s 105 ||| s 106:=h.at 5 107 (.or (.v 105) (.v 106)) rfl rfl
 have e108:s 108=s 26 ^^^ s 54:=h.at 4 108 (.xor (.v 26) (.v 54)) rfl rfl
 have e109:s 109=s 107 ||| s 108:=h.at 3 109 (.or (.v 107) (.v 108)) rfl rfl
 have e110:s 110=s 27 ^^^ s 55:=h.at 2 110 (.xor (.v 27) (.v 55)) rfl rfl
 have e111:s 111=s 109 ||| s 110:=h.at 1 111 (.or (.v 109) (.v 110)) rfl rfl
 have e112:s 112=if s 111=0 then 1 else 0:=h.at 0 112 (.feq (.v 111) (.c 0)) rfl rfl
 clear h
 have key:s 111=0↔∀ k,k<28→s k=s (28+k):=by
  rw [or_step e111 e110,or_step e109 e108,or_step e107 e106,or_step e105 e104,or_step e103 e102,or_step e101 e100,or_step e99 e98,or_step e97 e96,or_step e95 e94,or_step e93 e92,or_step e91 e90,or_step e89 e88,or_step e87 e86,or_step e85 e84,or_step e83 e82,or_step e81 e80,or_step e79 e78,or_step e77 e76,or_step e75 e74,or_step e73 e72,or_step e71 e70,or_step e69 e68,or_step e67 e66,or_step e65 e64,or_step e63 e62,or_step e61 e60,or_step e59 e58,or_step e57 e56]
  constructor
  ·intro h k hk
   obtain ⟨⟨⟨⟨⟨⟨⟨⟨⟨⟨⟨⟨⟨⟨⟨⟨⟨⟨⟨⟨⟨⟨⟨⟨⟨⟨⟨⟨_,h0⟩,h1⟩,h2⟩,h3⟩,h4⟩,h5⟩,h6⟩,h7⟩,h8⟩,h9⟩,h10⟩,h11⟩,h12⟩,h13⟩,h14⟩,h15⟩,h16⟩,h17⟩,h18⟩,h19⟩,h20⟩,h21⟩,h22⟩,h23⟩,h24⟩,h25⟩,h26⟩,h27⟩:=h
   have hc:k=0∨k=1∨k=2∨k=3∨k=4∨k=5∨k=6∨k=7∨k=8∨k=9∨k=10∨k=11∨k=12∨k=13∨k=14∨k=15∨k=16∨k=17∨k=18∨k=19∨k=20∨k=21∨k=22∨k=23∨k=24∨k=25∨k=26∨k=27:=by omega
   rcases hc with rfl | rfl | rfl | rfl | rfl | rfl | rfl | rfl | rfl | rfl | rfl | rfl | rfl | rfl | rfl | rfl | rfl | rfl | rfl | rfl | rfl | rfl | rfl | rfl | rfl | rfl | rfl | rfl
   ·exact h0
   ·exact h1
   ·exact h2
   ·exact h3
   ·exact h4
   ·exact h5
   ·exact h6
   ·exact h7
   ·exact h8
   ·exact h9
   ·exact h10
   ·exact h11
   ·exact h12
   ·exact h13
   ·exact h14
   ·exact h15
   ·exact h16
   ·exact h17
   ·exact h18
   ·exact h19
   ·exact h20
   ·exact h21
   ·exact h22
   ·exact h23
   ·exact h24
   ·exact h25
   ·exact h26
   ·exact h27
  ·intro h
   exact ⟨⟨⟨⟨⟨⟨⟨⟨⟨⟨⟨⟨⟨⟨⟨⟨⟨⟨⟨⟨⟨⟨⟨⟨⟨⟨⟨⟨rfl,h 0 (by decide)⟩,h 1 (by decide)⟩,h 2 (by decide)⟩,h 3 (by decide)⟩,h 4 (by decide)⟩,h 5 (by decide)⟩,h 6 (by decide)⟩,h 7 (by decide)⟩,h 8 (by decide)⟩,h 9 (by decide)⟩,h 10 (by decide)⟩,h 11 (by decide)⟩,h 12 (by decide)⟩,h 13 (by decide)⟩,h 14 (by decide)⟩,h 15 (by decide)⟩,h 16 (by decide)⟩,h 17 (by decide)⟩,h 18 (by decide)⟩,h 19 (by decide)⟩,h 20 (by decide)⟩,h 21 (by decide)⟩,h 22 (by decide)⟩,h 23 (by decide)⟩,h 24 (by decide)⟩,h 25 (by decide)⟩,h 26 (by decide)⟩,h 27 (by decide)⟩
 rw [e112]
 by_cases hz:s 111=0
 ·rw [if_pos hz,if_pos (key.1 hz)]
 ·rw [if_neg hz,if_neg (fun hh=>hz (key.2 hh))]
def b28 (i:Nat):List A0:=(List.range 28).map fun k=>.num .u8 (i+k)
def noSep (nt n w:Nat) (l:List (Nat × Bool)):Fix:={ nt:=nt,nold:=n,wr:=fun r=>decide (r<w),sep:=fun _ _=>false,dec:=fun i=>(l.find? fun x=>x.1 == i).map (·.2) }
def st114:St:=startSt [.one (.slc 0 0 28 28),.one (.slc 1 0 28 28)] [(0,b28 0),(1,b28 28)] 56 2
theorem row_of {s:Nums} {β:Places} {n r:Nat} {w:World}:∀ {l:List A0} {k:Nat},(∀ (j:Nat) (x:A0),l[j]?=some x→∃ v,w.cell? (at_ β r (k+j))=some v∧x.rep s β n v)→RowOk s β n r w k l
 | [],_,_=>trivial
 | y :: l,k,h=>⟨by have:=h 0 y rfl; rwa [Nat.add_zero] at this,row_of fun j x hx=>by have:=h (j+1) x (by simpa using hx); rwa [Nat.add_assoc,Nat.add_comm 1 j]⟩
theorem b28_row {s:Nums} {β:Places} {n r:Nat} {w:World} {b o i:Nat} {f:Nat→Nat} (hβ:β r=(b,o)) (h:BytesAt w b o f) (hs:∀ k,k<28→s (i+k)=f k):RowOk s β n r w 0 (b28 i) :=
 row_of fun j x hx=>by
  have hj:j<28:=by have:=(List.getElem?_eq_some_iff.1 hx).1; simpa [b28] using this
  have hx':x=.num .u8 (i+j):=by
   rw [b28,List.getElem?_map,List.getElem?_range hj] at hx
   exact (Option.some.inj hx).symm
  subst hx'
  obtain ⟨h1,h2⟩:=h j hj
  refine ⟨_,by rw [at_,hβ,Nat.zero_add]; exact h1,?_,?_⟩
  ·rw [hs j hj]
  ·rw [hs j hj]; exact h2
theorem run114t:brief [4] (runF (tabOf true []) (noSep 31 2 0 [(112,true)]) 2000 Try.f114 st114)=some (.ret,113,ex114,[],[some (.one (.lit (.int .i64 1)))]):=by kernel_rfl
theorem run114f:brief [4] (runF (tabOf true []) (noSep 31 2 0 [(112,false)]) 2000 Try.f114 st114)=some (.ret,113,ex114,[],[some (.one (.lit (.int .i64 0)))]):=by kernel_rfl
theorem tab0_ok (b:Bool):(tabOf b []).Ok Try.prog:=tab_ok _ _ fun _ _ h=>by cases h
open Classical in
theorem meets114 (w:World) (b1 o1 b2 o2:Nat) (f g:Nat→Nat) (hf:BytesAt w b1 o1 f) (hg:BytesAt w b2 o2 g) :
  Meets Try.prog 114 #[slice28 b1 o1,slice28 b2 o2] w fun v w'=>v=.int .i64 (((if (∀ k,k<28→f k=g k) then 1 else 0):Nat):Int)∧Below w.heap.size w w':=by
 refine meets_of_calls Try.func114 (by kernel_rfl) (by kernel_rfl) ?_
 let β:Places:=fun r=>if r=0 then (b1,o1) else (b2,o2)
 have in1:∀ s:Nums,(∀ i,i<56→s i=if i<28 then f i else g (i - 28))→(∀ k,k<28→s (0+k)=f k)∧∀ k,k<28→s (28+k)=g k:=fun s hs=>by
  refine ⟨fun k hk=>?_,fun k hk=>?_⟩
  ·rw [hs _ (by omega),if_pos (by omega),Nat.zero_add]
  ·rw [hs _ (by omega),if_neg (by omega),Nat.add_sub_cancel_left]
 have hval:∀ s:Nums,(∀ i,i<56→s i=if i<28 then f i else g (i - 28))→Holds s 113 ex114→s 112=if (∀ k,k<28→f k=g k) then 1 else 0:=fun s hs hH=>by
  obtain ⟨i1,i2⟩:=in1 s hs
  rw [holds114 hH]
  have:(∀ k,k<28→s k=s (28+k))↔∀ k,k<28→f k=g k:=by
   refine ⟨fun h k hk=>?_,fun h k hk=>?_⟩
   ·have:=h k hk; rw [i2 k hk] at this; have i1':=i1 k hk; rw [Nat.zero_add] at i1'; rw [← i1',this]
   ·have i1':=i1 k hk; rw [Nat.zero_add] at i1'; rw [i1',i2 k hk,h k hk]
  by_cases hc:∀ k,k<28→f k=g k
  ·rw [if_pos hc,if_pos (this.2 hc)]
  ·rw [if_neg hc,if_neg (fun h=>hc (this.1 h))]
 have hold:∀ r,r<2→(β r).1<w.heap.size:=fun r _=>by
  show (if r=0 then (b1,o1) else (b2,o2)).1<_
  split
  ·exact World.block_lt_of_cell? w _ (hf 0 (by decide)).1
  ·exact World.block_lt_of_cell? w _ (hg 0 (by decide)).1
 by_cases hc:∀ k,k<28→f k=g k
 ·refine calls_brief (tab0_ok true) run114t Try.func114 Try.ntmps114 (res:=some 4) ⟨.inr rfl,Try.results114⟩ (by decide +kernel) (by decide) (by decide) (by decide) (by decide) (fun i=>if i<28 then f i else g (i - 28)) β
   (vals:=[slice28 b1 o1,slice28 b2 o2]) (fun s hs=>⟨⟨rfl,lt02⟩,⟨rfl,lt12⟩,trivial⟩)
   (fun s hs=>⟨lt02,b28_row rfl hf (in1 s hs).1,lt12,b28_row rfl hg (in1 s hs).2,trivial⟩) (fun r l _ hr=>absurd (of_decide_eq_true (show decide (r<0)=true from hr)) (Nat.not_lt_zero r)) hold (fun r q _ _ h=>by cases h) ?_ ?_
  ·intro s hs hH i b hb
   have hv:=hval s hs hH
   rw [if_pos hc] at hv
   have:i=112∧b=true:=by
    simp only [noSep,List.find?] at hb
    split at hb
    ·rename_i he; cases hb; exact ⟨(beq_iff_eq.1 he).symm,rfl⟩
    ·cases hb
   obtain ⟨rfl,rfl⟩:=this
   exact hv
  ·intro s hs hH st' β' a' w' hts hag hr hbe
   have hv:=hr.tm 4 _ (map_get hts 0 4 _ rfl rfl)
   refine ⟨_,rfl,?_,hbe⟩
   rw [if_pos hc]
   exact hv
 ·refine calls_brief (tab0_ok true) run114f Try.func114 Try.ntmps114 (res:=some 4) ⟨.inr rfl,Try.results114⟩ (by decide +kernel) (by decide) (by decide) (by decide) (by decide) (fun i=>if i<28 then f i else g (i - 28)) β
   (vals:=[slice28 b1 o1,slice28 b2 o2]) (fun s hs=>⟨⟨rfl,lt02⟩,⟨rfl,lt12⟩,trivial⟩)
   (fun s hs=>⟨lt02,b28_row rfl hf (in1 s hs).1,lt12,b28_row rfl hg (in1 s hs).2,trivial⟩) (fun r l _ hr=>absurd (of_decide_eq_true (show decide (r<0)=true from hr)) (Nat.not_lt_zero r)) hold (fun r q _ _ h=>by cases h) ?_ ?_
  ·intro s hs hH i b hb
   have hv:=hval s hs hH
   rw [if_neg hc] at hv
   have:i=112∧b=false:=by
    simp only [noSep,List.find?] at hb
    split at hb
    ·rename_i he; cases hb; exact ⟨(beq_iff_eq.1 he).symm,rfl⟩
    ·cases hb
   obtain ⟨rfl,rfl⟩:=this
   exact hv
  ·intro s hs hH st' β' a' w' hts hag hr hbe
   have hv:=hr.tm 4 _ (map_get hts 0 4 _ rfl rfl)
   refine ⟨_,rfl,?_,hbe⟩
   rw [if_neg hc]
   exact hv
end P224
/- p224InvertEndianness: twenty-eight bytes the other way round. -/
namespace P224
open Go Go.RowKit Go.Proofs
set_option maxRecDepth 100000
theorem setCell_comm (w:World) (b:Nat) {i j:Nat} (h:i≠j) (x y:Value):(w.setCell ⟨b,i,none⟩ x).setCell ⟨b,j,none⟩ y=(w.setCell ⟨b,j,none⟩ y).setCell ⟨b,i,none⟩ x:=by
 unfold World.setCell
 congr 1
 refine Array.ext (by simp) fun k h1 h2=>?_
 simp only [Array.getElem_modify]
 split
 ·cases w.heap[k]'(by simpa using h1) <;> simp [Array.setIfInBounds_comm _ _ h]
 ·rfl
def setPairs (w:World) (b o:Nat):List (Nat × Value)→World
 | []=>w
 | (i,v) :: l=>(setPairs w b o l).setCell ⟨b,o+i,none⟩ v
theorem setPairs_perm (w:World) (b o:Nat) {l m:List (Nat × Value)} (h:l.Perm m) (hn:(l.map (·.1)).Nodup):setPairs w b o l=setPairs w b o m:=by
 induction h with
 | nil=>rfl
 | cons x _ ih =>
  obtain ⟨i,v⟩:=x
  rw [List.map_cons,List.nodup_cons] at hn
  rw [setPairs,setPairs,ih hn.2]
 | swap x y l =>
  obtain ⟨i,v⟩:=x
  obtain ⟨j,u⟩:=y
  have hij:i≠j:=by
   intro e
   subst e
   simp at hn
  rw [setPairs,setPairs,setPairs,setPairs,setCell_comm _ _ (by omega)]
 | trans h1 _ ih1 ih2=>rw [ih1 hn,ih2 ((h1.map _).nodup_iff.1 hn)]
theorem setCells_pairs (b o:Nat) (f:Nat→Value):∀ (n:Nat) (w:World),w.setCells b o ((List.range n).map f)=setPairs w b o ((List.range n).reverse.map fun i=>(i,f i))
 | 0,w=>rfl
 | n+1,w=>by
  rw [List.range_succ,List.map_append,setCells_append,setCells_pairs b o f n w,List.reverse_append]
  simp only [List.map_cons,List.map_nil,List.reverse_cons,List.reverse_nil,List.nil_append,List.singleton_append,List.map_cons,setPairs,List.length_map,List.length_range]
  rfl
def pairs111:List (Nat × Nat):=[(14,13),(13,14),(15,12),(12,15),(16,11),(11,16),(17,10),(10,17),(18,9),(9,18),(19,8),(8,19),(20,7),(7,20),(21,6),(6,21),(22,5),(5,22),(23,4),(4,23),(24,3),(3,24),(25,2),(2,25),(26,1),(1,26),(27,0),(0,27)]
def out111:List (Nat × Nat × A0):=pairs111.map fun p=>(0,p.1,.num .u8 p.2)
def st111:St:=startSt [.one (.slc 0 0 28 28)] [(0,b28 0)] 28 1
theorem run111:brief [] (runF (tabOf true []) (noSep 32 1 1 []) 2000 Try.f111 st111)=some (.normal,28,[],out111,[]):=by kernel_rfl
theorem applyOut_pairs {s:Nums} {β:Places} {w:World} {b o:Nat} (hβ:β 0=(b,o)):∀ l:List (Nat × Nat),applyOut s β w (l.map fun p=>(0,p.1,A0.num .u8 p.2))=setPairs w b o (l.map fun p=>(p.1,.int .u8 (s p.2:Int)))
 | []=>rfl
 | (i,j) :: l=>by
  show (applyOut s β w (l.map fun p=>(0,p.1,A0.num .u8 p.2))).setCell (at_ β 0 i) (.int .u8 (s j:Int))=(setPairs w b o (l.map fun p=>(p.1,.int .u8 (s p.2:Int)))).setCell ⟨b,o+i,none⟩ (.int .u8 (s j:Int))
  rw [applyOut_pairs hβ l,at_,hβ]
theorem perm111:pairs111.Perm ((List.range 28).reverse.map fun i=>(i,27 - i)):=by decide +kernel
theorem nodup111:(pairs111.map fun p=>p.1).Nodup:=by decide +kernel
theorem meets111 (w:World) (b o:Nat) (f:Nat→Nat) (hf:BytesAt w b o f) (hfz:∀ k,k<28→w.frozen? ⟨b,o+k,none⟩=false) :
  Meets Try.prog 111 #[slice28 b o] w fun _ w'=>Below w.heap.size (w.setCells b o (bytesRow fun k=>f (27 - k))) w':=by
 refine meets_of_calls Try.func111 (by kernel_rfl) (by kernel_rfl) ?_
 refine calls_brief (tab0_ok true) run111 Try.func111 Try.ntmps111 (res:=none) ⟨.inl rfl,Try.results111⟩ (by decide +kernel) (by decide) (by decide) (by decide) (by decide) f (fun _=>(b,o))
   (vals:=[slice28 b o]) (fun s hs=>⟨⟨rfl,lt01⟩,trivial⟩)
   (fun s hs=>⟨lt01,b28_row rfl hf (fun k hk=>by rw [Nat.zero_add]; exact hs k hk),trivial⟩) ?_ (fun r _=>World.block_lt_of_cell? w _ (hf 0 (by decide)).1) (fun r q _ _ h=>by cases h) (fun _ _ _ i b h=>by cases h) ?_
 ·intro r l hl hr j hj
  have h0:r<1:=of_decide_eq_true hr
  have:r=0:=by omega
  subst this
  cases hl
  exact hfz j (by simpa [b28] using hj)
 ·intro s hs hH st' β' a' w' hts hag hr hbe
  refine ⟨_,rfl,?_⟩
  have hb0:β' 0=(b,o):=hag 0 lt01
  have e:applyOut s β' w out111=w.setCells b o (bytesRow fun k=>f (27 - k)):=by
   rw [out111,applyOut_pairs hb0,bytesRow,setCells_pairs]
   have hp:=perm111.map fun p:Nat × Nat=>(p.1,(Value.int .u8 (s p.2:Int)))
   rw [setPairs_perm w b o hp (by rw [List.map_map]; exact nodup111),List.map_map]
   congr 1
   refine List.map_congr_left fun i hi=>?_
   have:i<28:=by simpa using hi
   show (i,Value.int .u8 (s (27 - i):Int))=_
   rw [hs (27 - i) (by omega)]
  rw [e] at hbe
  exact hbe
end P224
/- PRINTED BY A PROGRAM OF MY OWN (gen/f10.py): out of the stored form and into it; bytes of words and words of bytes. -/
namespace P224
open Go Go.RowKit Go.Proofs
set_option maxRecDepth 100000
theorem dg_lt (k x:Nat):dg k x<18446744073709551616:=Nat.mod_lt _ (Nat.two_pow_pos _)
theorem dg_sum {x:Nat} (h:x<pq):S4 (dg 0 x) (dg 1 x) (dg 2 x) (dg 3 x)=x:=by
 have h2:=pq_224
 unfold dg
 have e0:(2:Nat) ^ (64*0)=1:=by decide
 have e1:(2:Nat) ^ (64*1)=18446744073709551616:=by decide
 have e2:(2:Nat) ^ (64*2)=340282366920938463463374607431768211456:=by decide
 have e3:(2:Nat) ^ (64*3)=6277101735386680763835789423207666416102355444464034512896:=by decide +kernel
 have e4:(2:Nat) ^ 224=26959946667150639794667015087019630673637144422540572481103610249216:=by decide +kernel
 rw [e4] at h2
 rw [e0,e1,e2,e3]
 show _+18446744073709551616*_+340282366920938463463374607431768211456*_+6277101735386680763835789423207666416102355444464034512896*_=x
 omega
theorem dg_of_sum {r0 r1 r2 r3 x:Nat} (h:S4 r0 r1 r2 r3=x) (hx:x<pq) (h0:r0<18446744073709551616) (h1:r1<18446744073709551616) (h2:r2<18446744073709551616) (_h3:r3<18446744073709551616) :
  r0=dg 0 x∧r1=dg 1 x∧r2=dg 2 x∧r3=dg 3 x:=by
 have:=dg_sum hx
 have l0:=dg_lt 0 x
 have l1:=dg_lt 1 x
 have l2:=dg_lt 2 x
 have l3:=dg_lt 3 x
 have h':r0+18446744073709551616*r1+340282366920938463463374607431768211456*r2+6277101735386680763835789423207666416102355444464034512896*r3=x:=h
 have h'':dg 0 x+18446744073709551616*dg 1 x+340282366920938463463374607431768211456*dg 2 x+6277101735386680763835789423207666416102355444464034512896*dg 3 x=x:=this
 omega
theorem w4_dig {s:Nums} {β:Places} {n r:Nat} {w:World} {b o x i:Nat} (hβ:β r=(b,o)) (h:DigAt w b o x) (hs:∀ k,k<4→s (i+k)=dg k x):RowOk s β n r w 0 (w4 i):=by
 have key:∀ k,k<4→∃ v,w.cell? (at_ β r k)=some v∧(A0.num .u64 (i+k)).rep s β n v:=fun k hk=>by
  refine ⟨_,by rw [at_,hβ]; exact h k hk,?_,?_⟩
  ·rw [hs k hk]
  ·rw [hs k hk]; exact dg_lt k x
 exact ⟨key 0 (by decide),key 1 (by decide),key 2 (by decide),key 3 (by decide),trivial⟩
theorem out4_digs {s:Nums} {β:Places} {w:World} {a b c d v x o:Nat} (hβ:β 0=(x,o)) (h:s a=dg 0 v∧s b=dg 1 v∧s c=dg 2 v∧s d=dg 3 v):applyOut s β w (out4 a b c d)=w.setCells x o (digsV v):=by
 obtain ⟨h0,h1,h2,h3⟩:=h
 have e:applyOut s β w (out4 a b c d)=(((w.setCell (at_ β 0 0) (.int .u64 (s a:Int))).setCell (at_ β 0 1) (.int .u64 (s b:Int))).setCell (at_ β 0 2) (.int .u64 (s c:Int))).setCell (at_ β 0 3) (.int .u64 (s d:Int)):=rfl
 rw [e,h0,h1,h2,h3]
 simp only [at_,hβ]
 rfl
theorem four_of {s:Nums} {f:Nat→Nat} (h:∀ k,k<4→s (0+k)=f k):s 0=f 0∧s 1=f 1∧s 2=f 2∧s 3=f 3:=⟨h 0 (by decide),h 1 (by decide),h 2 (by decide),h 3 (by decide)⟩
theorem run123:brief [] (runF (tabOf false wordPrims) (regFix 496 2 1) 2000 Try.f123 st2)=some (.normal,127,ex123,out4 123 124 125 126,[]):=by kernel_rfl
theorem meets123 (w:World) (b o b1 o1 x:Nat) (hlt:b<w.heap.size) (hroom:RoomAt w b o) (hx:ElemAt w b1 o1 x) (hxl:x<pq) :
  Meets Try.prog 123 #[ptrTo b o,ptrTo b1 o1] w fun _ w'=>Below w.heap.size (w.setCells b o (digsV x)) w':=by
 refine meets_of_calls Try.func123 (by kernel_rfl) (by kernel_rfl) ?_
 let β:Places:=fun r=>if r=0 then (b,o) else (b1,o1)
 have in1:∀ s:Nums,(∀ i,i<4→s i=lim i x)→(∀ k,k<4→s (0+k)=lim k x):=fun s hs k hk=>by
  rw [hs _ (by omega),Nat.zero_add]
 refine calls_brief (tabW_ok) run123 Try.func123 Try.ntmps123 (res:=none) ⟨.inl rfl,Try.results123⟩ (by decide +kernel) (by decide +kernel) (by decide +kernel) (by decide) (by decide) (fun i=>lim i x) β
  (vals:=[ptrTo b o,ptrTo b1 o1]) (fun s hs=>⟨⟨rfl,lt02⟩,⟨rfl,lt12⟩,trivial⟩)
  (fun s hs=>⟨lt02,any4_row rfl hroom,lt12,w4_row rfl hx (in1 s hs),trivial⟩) ?_ ?_ (fun r q _ _ h=>by cases h) (fun _ _ _ i b h=>by cases h) ?_
 ·intro r l hl hr
  have h0:r<1:=of_decide_eq_true hr
  have:r=0:=by omega
  subst this
  cases hl
  exact any4_frz rfl hroom
 ·intro r _
  show (if r=0 then (b,o) else (b1,o1)).1<_
  split
  ·exact hlt
  ·exact World.block_lt_of_cell? w _ (hx 0 (by decide))
 ·intro s hs hH st' β' a' w' _ hag _ hbe
  obtain ⟨s0,s1,s2,s3⟩:=four_of (f:=fun k=>lim k x) (in1 s hs)
  obtain ⟨h1,h2,r0,r1,r2,r3⟩:=holds123 hH (by rw [s0]; exact lim_lt _ _) (by rw [s1]; exact lim_lt _ _) (by rw [s2]; exact lim_lt _ _) (by rw [s3]; exact lim_lt _ _)
  rw [s0,s1,s2,s3,lim_sum] at h1
  have e:S4 (s 123) (s 124) (s 125) (s 126)=x:=by
   refine unmont h2 hxl ?_
   exact h1.trans (Nat.mod_mod _ _)
  refine ⟨_,rfl,?_⟩
  rw [out4_digs (β:=β') (hag 0 (by show 0<2; decide)) (dg_of_sum e hxl r0 r1 r2 r3)] at hbe
  exact hbe
theorem run113:brief [] (runF (tabOf false wordPrims) (regFix 770 2 1) 2000 Try.f113 st2)=some (.normal,197,ex113,out4 193 194 195 196,[]):=by kernel_rfl
theorem meets113 (w:World) (b o b1 o1 x:Nat) (hlt:b<w.heap.size) (hroom:RoomAt w b o) (hx:DigAt w b1 o1 x) (hxl:x<pq) :
  Meets Try.prog 113 #[ptrTo b o,ptrTo b1 o1] w fun _ w'=>Below w.heap.size (w.setCells b o (words x)) w':=by
 refine meets_of_calls Try.func113 (by kernel_rfl) (by kernel_rfl) ?_
 let β:Places:=fun r=>if r=0 then (b,o) else (b1,o1)
 have in1:∀ s:Nums,(∀ i,i<4→s i=dg i x)→(∀ k,k<4→s (0+k)=dg k x):=fun s hs k hk=>by
  rw [hs _ (by omega),Nat.zero_add]
 refine calls_brief (tabW_ok) run113 Try.func113 Try.ntmps113 (res:=none) ⟨.inl rfl,Try.results113⟩ (by decide +kernel) (by decide +kernel) (by decide +kernel) (by decide) (by decide) (fun i=>dg i x) β
  (vals:=[ptrTo b o,ptrTo b1 o1]) (fun s hs=>⟨⟨rfl,lt02⟩,⟨rfl,lt12⟩,trivial⟩)
  (fun s hs=>⟨lt02,any4_row rfl hroom,lt12,w4_dig rfl hx (in1 s hs),trivial⟩) ?_ ?_ (fun r q _ _ h=>by cases h) (fun _ _ _ i b h=>by cases h) ?_
 ·intro r l hl hr
  have h0:r<1:=of_decide_eq_true hr
  have:r=0:=by omega
  subst this
  cases hl
  exact any4_frz rfl hroom
 ·intro r _
  show (if r=0 then (b,o) else (b1,o1)).1<_
  split
  ·exact hlt
  ·exact World.block_lt_of_cell? w _ (hx 0 (by decide))
 ·intro s hs hH st' β' a' w' _ hag _ hbe
  obtain ⟨s0,s1,s2,s3⟩:=four_of (f:=fun k=>dg k x) (in1 s hs)
  obtain ⟨h1,h2,r0,r1,r2,r3⟩:=holds113 hH (by rw [s0]; exact dg_lt _ _) (by rw [s1]; exact dg_lt _ _) (by rw [s2]; exact dg_lt _ _) (by rw [s3]; exact dg_lt _ _)
  rw [s0,s1,s2,s3] at h1
  have hsum:=dg_sum hxl
  have e:S4 (s 193) (s 194) (s 195) (s 196)=x*2 ^ 256 % pq:=by
   refine unmont h2 (Nat.mod_lt _ pq_pos) ?_
   have hc:26959946667150639791744011812698107204071485058075563455699384008705=2 ^ 256*2 ^ 256 % pq:=by decide +kernel
   refine h1.trans ?_
   have:S4 (dg 0 x) (dg 1 x) (dg 2 x) (dg 3 x)*26959946667150639791744011812698107204071485058075563455699384008705 % pq=x*2 ^ 256 % pq*2 ^ 256 % pq:=by
    rw [hsum,hc,Nat.mul_mod_mod,Nat.mod_mul_mod,Nat.mul_assoc]
   exact this
  refine ⟨_,rfl,?_⟩
  rw [out4_apply (β:=β') (hag 0 (by show 0<2; decide)) (lim_of_sum e r0 r1 r2 r3)] at hbe
  exact hbe
def pairs124:List (Nat × Nat):=[(27,79),(26,77),(25,74),(24,71),(23,69),(22,67),(21,64),(20,61),(19,58),(18,55),(17,52),(16,49),(15,47),(14,45),(13,42),(12,39),(11,36),(10,33),(9,30),(8,27),(7,25),(6,23),(5,20),(4,17),(3,14),(2,11),(1,8),(0,5)]
def any28:List A0:=List.replicate 28 .any
def st124:St:=startSt [.one (.ptr 0 0),.one (.ptr 1 0)] [(0,any28),(1,w4 0)] 4 2
theorem run124:brief [] (runF (tabOf false wordPrims) (regFix 308 2 1) 2000 Try.f124 st124)=some (.normal,80,ex124,pairs124.map fun p=>(0,p.1,.num .u8 p.2),[]):=by kernel_rfl
theorem any28_row {s:Nums} {β:Places} {n r:Nat} {w:World} {b o:Nat} (hβ:β r=(b,o)) (h:Room28 w b o):RowOk s β n r w 0 any28 :=
 row_of fun j x hx=>by
  have hj:j<28:=by have:=(List.getElem?_eq_some_iff.1 hx).1; simpa [any28] using this
  have hx':x=.any:=by
   rw [any28,List.getElem?_replicate,if_pos hj] at hx
   exact (Option.some.inj hx).symm
  subst hx'
  obtain ⟨v,hv⟩:=(h j hj).1
  exact ⟨v,by rw [at_,hβ,Nat.zero_add]; exact hv,trivial⟩
theorem dg_byte (j i x:Nat) (hi:i<8):dg j x / 256 ^ i % 256=by8 (8*j+i) x:=by
 have e1:(2:Nat) ^ (64*j)*256 ^ i=256 ^ (8*j+i):=by
  rw [Nat.pow_add,show (256:Nat)=2 ^ 8 from rfl,← Nat.pow_mul,← Nat.pow_mul,show 8*(8*j)=64*j by omega]
 unfold dg by8
 rw [← e1,← Nat.div_div_eq_div_mul]
 generalize x / 2 ^ (64*j)=y
 have h8:i=0∨i=1∨i=2∨i=3∨i=4∨i=5∨i=6∨i=7:=by omega
 rcases h8 with rfl | rfl | rfl | rfl | rfl | rfl | rfl | rfl <;> simp only [Nat.reducePow] <;> omega
theorem meets124 (w:World) (b o b1 o1 x:Nat) (hlt:b<w.heap.size) (hroom:Room28 w b o) (hx:DigAt w b1 o1 x) :
  Meets Try.prog 124 #[ptrTo b o,ptrTo b1 o1] w fun _ w'=>Below w.heap.size (w.setCells b o (bytesRow fun k=>by8 k x)) w':=by
 refine meets_of_calls Try.func124 (by kernel_rfl) (by kernel_rfl) ?_
 let β:Places:=fun r=>if r=0 then (b,o) else (b1,o1)
 have in1:∀ s:Nums,(∀ i,i<4→s i=dg i x)→(∀ k,k<4→s (0+k)=dg k x):=fun s hs k hk=>by
  rw [hs _ (by omega),Nat.zero_add]
 refine calls_brief (tabW_ok) run124 Try.func124 Try.ntmps124 (res:=none) ⟨.inl rfl,Try.results124⟩ (by decide +kernel) (by decide +kernel) (by decide +kernel) (by decide) (by decide) (fun i=>dg i x) β
  (vals:=[ptrTo b o,ptrTo b1 o1]) (fun s hs=>⟨⟨rfl,lt02⟩,⟨rfl,lt12⟩,trivial⟩)
  (fun s hs=>⟨lt02,any28_row rfl hroom,lt12,w4_dig rfl hx (in1 s hs),trivial⟩) ?_ ?_ (fun r q _ _ h=>by cases h) (fun _ _ _ i b h=>by cases h) ?_
 ·intro r l hl hr j hj
  have h0:r<1:=of_decide_eq_true hr
  have:r=0:=by omega
  subst this
  cases hl
  exact (hroom j (by simpa [any28] using hj)).2
 ·intro r _
  show (if r=0 then (b,o) else (b1,o1)).1<_
  split
  ·exact hlt
  ·exact World.block_lt_of_cell? w _ (hx 0 (by decide))
 ·intro s hs hH st' β' a' w' _ hag _ hbe
  obtain ⟨s0,s1,s2,s3⟩:=four_of (f:=fun k=>dg k x) (in1 s hs)
  obtain ⟨h0,h1,h2,h3,h4,h5,h6,h7,h8,h9,h10,h11,h12,h13,h14,h15,h16,h17,h18,h19,h20,h21,h22,h23,h24,h25,h26,h27⟩:=holds124 hH
  replace h0:s 5=by8 0 x:=by rw [h0,s0]; exact dg_byte 0 0 x (by decide)
  replace h1:s 8=by8 1 x:=by rw [h1,s0]; exact dg_byte 0 1 x (by decide)
  replace h2:s 11=by8 2 x:=by rw [h2,s0]; exact dg_byte 0 2 x (by decide)
  replace h3:s 14=by8 3 x:=by rw [h3,s0]; exact dg_byte 0 3 x (by decide)
  replace h4:s 17=by8 4 x:=by rw [h4,s0]; exact dg_byte 0 4 x (by decide)
  replace h5:s 20=by8 5 x:=by rw [h5,s0]; exact dg_byte 0 5 x (by decide)
  replace h6:s 23=by8 6 x:=by rw [h6,s0]; exact dg_byte 0 6 x (by decide)
  replace h7:s 25=by8 7 x:=by rw [h7,s0]; exact dg_byte 0 7 x (by decide)
  replace h8:s 27=by8 8 x:=by rw [h8,s1]; exact dg_byte 1 0 x (by decide)
  replace h9:s 30=by8 9 x:=by rw [h9,s1]; exact dg_byte 1 1 x (by decide)
  replace h10:s 33=by8 10 x:=by rw [h10,s1]; exact dg_byte 1 2 x (by decide)
  replace h11:s 36=by8 11 x:=by rw [h11,s1]; exact dg_byte 1 3 x (by decide)
  replace h12:s 39=by8 12 x:=by rw [h12,s1]; exact dg_byte 1 4 x (by decide)
  replace h13:s 42=by8 13 x:=by rw [h13,s1]; exact dg_byte 1 5 x (by decide)
  replace h14:s 45=by8 14 x:=by rw [h14,s1]; exact dg_byte 1 6 x (by decide)
  replace h15:s 47=by8 15 x:=by rw [h15,s1]; exact dg_byte 1 7 x (by decide)
  replace h16:s 49=by8 16 x:=by rw [h16,s2]; exact dg_byte 2 0 x (by decide)
  replace h17:s 52=by8 17 x:=by rw [h17,s2]; exact dg_byte 2 1 x (by decide)
  replace h18:s 55=by8 18 x:=by rw [h18,s2]; exact dg_byte 2 2 x (by decide)
  replace h19:s 58=by8 19 x:=by rw [h19,s2]; exact dg_byte 2 3 x (by decide)
  replace h20:s 61=by8 20 x:=by rw [h20,s2]; exact dg_byte 2 4 x (by decide)
  replace h21:s 64=by8 21 x:=by rw [h21,s2]; exact dg_byte 2 5 x (by decide)
  replace h22:s 67=by8 22 x:=by rw [h22,s2]; exact dg_byte 2 6 x (by decide)
  replace h23:s 69=by8 23 x:=by rw [h23,s2]; exact dg_byte 2 7 x (by decide)
  replace h24:s 71=by8 24 x:=by rw [h24,s3]; exact dg_byte 3 0 x (by decide)
  replace h25:s 74=by8 25 x:=by rw [h25,s3]; exact dg_byte 3 1 x (by decide)
  replace h26:s 77=by8 26 x:=by rw [h26,s3]; exact dg_byte 3 2 x (by decide)
  replace h27:s 79=by8 27 x:=by rw [h27,s3]; exact dg_byte 3 3 x (by decide)
  refine ⟨_,rfl,?_⟩
  have e:applyOut s β' w (pairs124.map fun p=>(0,p.1,A0.num .u8 p.2))=w.setCells b o (bytesRow fun k=>by8 k x):=by
   rw [applyOut_pairs (β:=β') (hag 0 (by show 0<2; decide)),bytesRow,setCells_pairs]
   congr 1
   simp only [pairs124,List.map_cons,List.map_nil,h0,h1,h2,h3,h4,h5,h6,h7,h8,h9,h10,h11,h12,h13,h14,h15,h16,h17,h18,h19,h20,h21,h22,h23,h24,h25,h26,h27]
   rfl
  rw [e] at hbe
  exact hbe
end P224
/- p224FromBytes: words of twenty-eight bytes, the lowest first. -/
namespace P224
open Go Go.RowKit Go.Proofs
set_option maxRecDepth 100000
def st112:St:=startSt [.one (.ptr 0 0),.one (.ptr 1 0)] [(0,any4),(1,b28 0)] 28 2
theorem run112:brief [] (runF (tabOf false wordPrims) (regFix 308 2 1) 2000 Try.f112 st112)=some (.normal,76,ex112,out4 58 65 72 75,[]):=by kernel_rfl
theorem by8_at (j i x:Nat):by8 (8*j+i) x=x / 2 ^ (64*j) / 256 ^ i % 256:=by
 have e1:(2:Nat) ^ (64*j)*256 ^ i=256 ^ (8*j+i):=by
  rw [Nat.pow_add,show (256:Nat)=2 ^ 8 from rfl,← Nat.pow_mul,← Nat.pow_mul,show 8*(8*j)=64*j by omega]
 unfold by8
 rw [← e1,← Nat.div_div_eq_div_mul]
theorem eight_bytes (y:Nat):y / 256 ^ 0 % 256+256*(y / 256 ^ 1 % 256)+65536*(y / 256 ^ 2 % 256)+16777216*(y / 256 ^ 3 % 256)+4294967296*(y / 256 ^ 4 % 256)+1099511627776*(y / 256 ^ 5 % 256)+281474976710656*(y / 256 ^ 6 % 256)+72057594037927936*(y / 256 ^ 7 % 256)=y % 2 ^ 64:=by
 simp only [Nat.reducePow]
 omega
theorem four_bytes (y:Nat):y / 256 ^ 0 % 256+256*(y / 256 ^ 1 % 256)+65536*(y / 256 ^ 2 % 256)+16777216*(y / 256 ^ 3 % 256)=y % 2 ^ 32:=by
 simp only [Nat.reducePow]
 omega
theorem meets112 (w:World) (b o b1 o1 x:Nat) (hlt:b<w.heap.size) (hroom:RoomAt w b o) (hx:BytesAt w b1 o1 fun k=>by8 k x) (hxl:x<2 ^ 224) :
  Meets Try.prog 112 #[ptrTo b o,ptrTo b1 o1] w fun _ w'=>Below w.heap.size (w.setCells b o (digsV x)) w':=by
 refine meets_of_calls Try.func112 (by kernel_rfl) (by kernel_rfl) ?_
 let β:Places:=fun r=>if r=0 then (b,o) else (b1,o1)
 refine calls_brief (tabW_ok) run112 Try.func112 Try.ntmps112 (res:=none) ⟨.inl rfl,Try.results112⟩ (by decide +kernel) (by decide +kernel) (by decide +kernel) (by decide) (by decide) (fun i=>by8 i x) β
  (vals:=[ptrTo b o,ptrTo b1 o1]) (fun s hs=>⟨⟨rfl,lt02⟩,⟨rfl,lt12⟩,trivial⟩)
  (fun s hs=>⟨lt02,any4_row rfl hroom,lt12,b28_row rfl hx (fun k hk=>by rw [Nat.zero_add]; exact hs k hk),trivial⟩) ?_ ?_ (fun r q _ _ h=>by cases h) (fun _ _ _ i b h=>by cases h) ?_
 ·intro r l hl hr
  have h0:r<1:=of_decide_eq_true hr
  have:r=0:=by omega
  subst this
  cases hl
  exact any4_frz rfl hroom
 ·intro r _
  show (if r=0 then (b,o) else (b1,o1)).1<_
  split
  ·exact hlt
  ·exact World.block_lt_of_cell? w _ (hx 0 (by decide)).1
 ·intro s hs hH st' β' a' w' _ hag _ hbe
  have hb:∀ k,k<28→s k<256:=fun k hk=>by rw [hs k hk]; exact by8_lt k x
  obtain ⟨h0,h1,h2,h3⟩:=holds112 hH (hb 0 (by decide)) (hb 1 (by decide)) (hb 2 (by decide)) (hb 3 (by decide)) (hb 4 (by decide)) (hb 5 (by decide)) (hb 6 (by decide)) (hb 7 (by decide))
   (hb 8 (by decide)) (hb 9 (by decide)) (hb 10 (by decide)) (hb 11 (by decide)) (hb 12 (by decide)) (hb 13 (by decide)) (hb 14 (by decide)) (hb 15 (by decide))
   (hb 16 (by decide)) (hb 17 (by decide)) (hb 18 (by decide)) (hb 19 (by decide)) (hb 20 (by decide)) (hb 21 (by decide)) (hb 22 (by decide)) (hb 23 (by decide))
   (hb 24 (by decide)) (hb 25 (by decide)) (hb 26 (by decide)) (hb 27 (by decide))
  have at':∀ j i,8*j+i<28→s (8*j+i)=x / 2 ^ (64*j) / 256 ^ i % 256:=fun j i h=>by rw [hs _ h]; exact by8_at j i x
  have d:s 58=dg 0 x∧s 65=dg 1 x∧s 72=dg 2 x∧s 75=dg 3 x:=by
   refine ⟨?_,?_,?_,?_⟩
   ·rw [h0]
    refine Eq.trans ?_ (eight_bytes (x / 2 ^ (64*0)))
    rw [at' 0 0 (by decide),at' 0 1 (by decide),at' 0 2 (by decide),at' 0 3 (by decide),at' 0 4 (by decide),at' 0 5 (by decide),at' 0 6 (by decide),at' 0 7 (by decide)]
   ·rw [h1]
    refine Eq.trans ?_ (eight_bytes (x / 2 ^ (64*1)))
    rw [at' 1 0 (by decide),at' 1 1 (by decide),at' 1 2 (by decide),at' 1 3 (by decide),at' 1 4 (by decide),at' 1 5 (by decide),at' 1 6 (by decide),at' 1 7 (by decide)]
   ·rw [h2]
    refine Eq.trans ?_ (eight_bytes (x / 2 ^ (64*2)))
    rw [at' 2 0 (by decide),at' 2 1 (by decide),at' 2 2 (by decide),at' 2 3 (by decide),at' 2 4 (by decide),at' 2 5 (by decide),at' 2 6 (by decide),at' 2 7 (by decide)]
   ·rw [h3]
    have e:dg 3 x=x / 2 ^ (64*3) % 2 ^ 32:=by
     unfold dg
     have hy:x / 2 ^ (64*3)<2 ^ 32:=Nat.div_lt_of_lt_mul (by rw [← Nat.pow_add]; exact hxl)
     rw [Nat.mod_eq_of_lt hy,Nat.mod_eq_of_lt (Nat.lt_of_lt_of_le hy (Nat.pow_le_pow_right (by decide) (by decide)))]
    rw [e]
    refine Eq.trans ?_ (four_bytes (x / 2 ^ (64*3)))
    rw [at' 3 0 (by decide),at' 3 1 (by decide),at' 3 2 (by decide),at' 3 3 (by decide)]
  refine ⟨_,rfl,?_⟩
  rw [out4_digs (β:=β') (hag 0 (by show 0<2; decide)) d] at hbe
  exact hbe
def bytePrims:List (Nat × Prim):=elemPrims0 ++ [(99,.finv),(123,.frm),(124,.tob),(111,.rev),(112,.frb),(113,.tom),(114,.cmpB)]
end P224
