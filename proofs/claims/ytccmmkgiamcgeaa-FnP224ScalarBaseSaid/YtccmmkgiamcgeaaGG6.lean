/- Runs that are held against what is expected, for many ways at once; lessOrEqBytes. -/
import Derived.Test.YtccmmkgiamcgeaaGG1
set_option linter.all false
namespace P224
open Go Go.RowKit Go.Proofs
set_option maxRecDepth 100000
set_option linter.unusedVariables false
def Out.same:Out→Out→Bool
 | .normal,.normal=>true
 | .ret,.ret=>true
 | .exit i,.exit j=>i == j
 | _,_=>false
theorem Out.same_eq {x y:Out} (h:x.same y=true):x=y:=by
 cases x <;> cases y <;> simp [Out.same] at h <;> first | rfl | (rw [h])
def optsSame:List (Option AV)→List (Option AV)→Bool
 | [],[]=>true
 | x :: l,y :: m=>optSame x y && optsSame l m
 | _,_=>false
theorem optsSame_eq:∀ {x y:List (Option AV)},optsSame x y=true→x=y
 | [],[],_=>rfl
 | x :: l,y :: m,h=>by
  rw [optsSame,Bool.and_eq_true] at h
  rw [optSame_eq h.1,optsSame_eq h.2]
 | [],_ :: _,h | _ :: _,[],h=>by simp [optsSame] at h
abbrev Brief:=Option (Out × Nat × List Ex × List (Nat × Nat × A0) × List (Option AV))
def briefSame:Brief→Brief→Bool
 | some (o,n,e,u,l),some (o',n',e',u',l')=>o.same o' && n == n' && decide (e=e') && outSame u u' && optsSame l l'
 | _,_=>false
theorem briefSame_eq {x y:Brief} (h:briefSame x y=true):x=y:=by
 unfold briefSame at h
 split at h
 ·simp only [Bool.and_eq_true,beq_iff_eq,decide_eq_true_eq] at h
  obtain ⟨⟨⟨⟨h1,h2⟩,h3⟩,h4⟩,h5⟩:=h
  rw [Out.same_eq h1,h2,h3,outSame_eq h4,optsSame_eq h5]
 ·cases h
theorem all_range {n:Nat} {p:Nat→Bool} (h:(List.range n).all p=true) {j:Nat} (hj:j<n):p j=true:=List.all_eq_true.1 h j (List.mem_range.2 hj)
def numsFrom (k:IntKind):Nat→Nat→List A0
 | _,0=>[]
 | i,n+1=>.num k i :: numsFrom k (i+1) n
def st110:St:=startSt [.one (.sl 0 0 28),.one (.sl 1 0 28)] [(0,numsFrom .u8 0 28),(1,numsFrom .u8 28 28)] 56 2
def fix110 (j:Nat) (b:Bool):Fix:={ nt:=35,nold:=2,wr:=fun _=>false,sep:=fun _ _=>false,dec:=fun i=>bif decide (i<56) then none else bif decide (i<56+j) then some false else bif decide (i=56+j) && decide (j<28) then some true else bif decide (i=57+j) && decide (j<28) then some b else none }
def fneL:Nat→List Ex
 | 0=>[]
 | n+1=>.fne (.v n) (.v (28+n)) :: fneL n
def want110 (j:Nat) (b:Bool):Brief:=bif decide (j<28) then some (.ret,58+j,.op 4 [.v j,.v (28+j)] :: fneL (j+1),[],[some (.one (.lit (.int .i64 (bif b then 1 else 0))))])
 else some (.ret,84,fneL 28,[],[some (.one (.lit (.int .i64 1)))])
def scope110 (j:Nat) (b:Bool):Bool:=match want110 j b with
 | some (_,n,e,_,_)=>inScope n e && decide (e.length≤n) && n - e.length == 56
 | none=>false
theorem run110:((List.range 29).all fun j=>(briefSame (brief [4] (runF (tabX false [] []) (fix110 j true) 2000 Try.f110 st110)) (want110 j true) && scope110 j true) &&
  (briefSame (brief [4] (runF (tabX false [] []) (fix110 j false) 2000 Try.f110 st110)) (want110 j false) && scope110 j false))=true:=by kernel_rfl
end P224
/- lessOrEqBytes says whether one number of bytes is at most another one. -/
namespace P224
open Go Go.RowKit Go.Proofs
set_option maxRecDepth 100000
set_option linter.unusedVariables false
theorem fneL_holds {s:Nums}:∀ n,Holds s (56+n) (fneL n)→∀ k,k<n→s (56+k)=if s k=s (28+k) then 0 else 1
 | 0,_,k,hk=>by omega
 | n+1,h,k,hk=>by
  obtain ⟨h1,h2⟩:=h
  rw [show 56+(n+1) - 1=56+n by omega] at h1 h2
  by_cases e:k=n
  ·subst e; exact h1
  ·exact fneL_holds n h2 k (by omega)
theorem row_nums {s:Nums} {β:Places} {n r:Nat} {w:World}:∀ (m i j:Nat),(∀ k,k<m→w.cell? (at_ β r (j+k))=some (.int .u8 (s (i+k):Int))∧s (i+k)<256)→RowOk s β n r w j (numsFrom .u8 i m)
 | 0,_,_,_=>trivial
 | m+1,i,j,h=>by
  refine ⟨?_,row_nums m (i+1) (j+1) fun k hk=>?_⟩
  ·obtain ⟨h1,h2⟩:=h 0 (by omega)
   exact ⟨_,h1,rfl,h2⟩
  ·have:=h (k+1) (by omega)
   rw [show j+1+k=j+(k+1) by omega,show i+1+k=i+(k+1) by omega]
   exact this
theorem ofBytes_lt:∀ (l:List Nat),(∀ x ∈ l,x<256)→ofBytes l<256 ^ l.length
 | [],_=>by decide
 | x :: l,h=>by
  have h1:=ofBytes_lt l fun y hy=>h y (List.mem_cons_of_mem _ hy)
  have h2:=h x List.mem_cons_self
  rw [ofBytes,List.length_cons,Nat.pow_succ]
  have h3:x*256 ^ l.length≤255*256 ^ l.length:=Nat.mul_le_mul_right _ (by omega)
  omega
theorem ofBytes_cmp:∀ (xs ys:List Nat) (j x y:Nat),xs.length=ys.length→(∀ z ∈ xs,z<256)→(∀ k,k<j→xs[k]?=ys[k]?)→xs[j]?=some x→ys[j]?=some y→x<y→ofBytes xs<ofBytes ys
 | x :: xs,y :: ys,0,_,_,hl,hx,_,e1,e2,h=>by
  cases e1; cases e2
  have h1:=ofBytes_lt xs fun z hz=>hx z (List.mem_cons_of_mem _ hz)
  have hl':xs.length=ys.length:=by simpa using hl
  rw [ofBytes,ofBytes,← hl']
  have h2:(x+1)*256 ^ xs.length≤y*256 ^ xs.length:=Nat.mul_le_mul_right _ h
  rw [Nat.add_mul,Nat.one_mul] at h2
  omega
 | x :: xs,y :: ys,j+1,u,v,hl,hx,hk,e1,e2,h=>by
  have h0:=hk 0 (by omega)
  simp only [List.getElem?_cons_zero,Option.some.injEq] at h0
  subst h0
  have hl':xs.length=ys.length:=by simpa using hl
  have:=ofBytes_cmp xs ys j u v hl' (fun z hz=>hx z (List.mem_cons_of_mem _ hz)) (fun k hk'=>by simpa using hk (k+1) (by omega)) (by simpa using e1) (by simpa using e2) h
  rw [ofBytes,ofBytes,hl']
  omega
 | [],_,_,_,_,_,_,_,e1,_,_=>by simp at e1
 | _ :: _,[],_,_,_,_,_,_,_,e2,_=>by simp at e2
theorem first_diff (g h:Nat→Nat):∀ n:Nat,(∀ k,k<n→g k=h k)∨∃ j,j<n∧(∀ k,k<j→g k=h k)∧g j≠h j
 | 0=>.inl fun k hk=>by omega
 | n+1=>by
  rcases first_diff g h n with e | ⟨j,h1,h2,h3⟩
  ·by_cases e':g n=h n
   ·exact .inl fun k hk=>by
     by_cases ek:k=n
     ·subst ek; exact e'
     ·exact e k (by omega)
   ·exact .inr ⟨n,by omega,e,e'⟩
  ·exact .inr ⟨j,by omega,h2,h3⟩
theorem tabN_ok:(tabX false [] []).Ok Try.prog:=tabX_ok (fun _ _ h=>by cases h) (fun _ _ h=>by cases h)
theorem brief110 (j:Nat) (hj:j<29) (b:Bool):brief [4] (runF (tabX false [] []) (fix110 j b) 2000 Try.f110 st110)=want110 j b∧scope110 j b=true:=by
 have h:=all_range run110 hj
 simp only [Bool.and_eq_true] at h
 cases b with
 | true=>exact ⟨briefSame_eq h.1.1,h.1.2⟩
 | false=>exact ⟨briefSame_eq h.2.1,h.2.2⟩
def rowF (g:Nat→Nat):List Nat:=(List.range 28).map g
theorem rowF_len (g:Nat→Nat):(rowF g).length=28:=by simp [rowF]
theorem rowF_get (g:Nat→Nat) {k:Nat} (hk:k<28):(rowF g)[k]?=some (g k):=by
 rw [rowF,List.getElem?_map,List.getElem?_range hk]; rfl
theorem rowF_lt {g:Nat→Nat} (h:∀ k,k<28→g k<256):∀ x ∈ rowF g,x<256:=by
 intro x hx
 obtain ⟨k,hk,rfl⟩:=List.mem_map.1 hx
 exact h k (List.mem_range.1 hk)
theorem rowF_congr {g h:Nat→Nat} (e:∀ k,k<28→g k=h k):rowF g=rowF h:=by
 refine List.map_congr_left fun k hk=>e k (List.mem_range.1 hk)
theorem meets110 (w:World) (b1 o1 c1 b2 o2 c2:Nat) (g h:Nat→Nat) (hc1:28≤c1) (hc2:28≤c2) (hg:BytesAt w b1 o1 g) (hh:BytesAt w b2 o2 h) :
  Meets Try.prog 110 #[.slice (some ⟨b1,o1,none⟩) 28 c1,.slice (some ⟨b2,o2,none⟩) 28 c2] w fun v w'=>v=.int .i64 (((if ofBytes (rowF g)≤ofBytes (rowF h) then 1 else 0):Nat):Int)∧Below w.heap.size w w':=by
 refine meets_of_calls Try.func110 (by kernel_rfl) (by kernel_rfl) ?_
 let β:Places:=fun r=>if r=0 then (b1,o1) else (b2,o2)
 let s0:Nums:=fun i=>if i<28 then g i else h (i - 28)
 have s0g:∀ k,k<28→s0 k=g k:=fun k hk=>if_pos hk
 have s0h:∀ k,k<28→s0 (28+k)=h k:=fun k hk=>by
  show (if 28+k<28 then _ else h (28+k - 28))=h k
  rw [if_neg (by omega),Nat.add_sub_cancel_left]
 have key:∀ (j:Nat) (hj:j<29) (b:Bool) (n:Nat) (ex:List Ex) (q:Int),want110 j b=some (.ret,n,ex,[],[some (.one (.lit (.int .i64 q)))]) →
   (∀ s:Nums,(∀ i,i<56→s i=s0 i)→Holds s n ex→Dec (fix110 j b) s)→q=(((if ofBytes (rowF g)≤ofBytes (rowF h) then 1 else 0):Nat):Int) →
   Calls Try.prog 110 #[.slice (some ⟨b1,o1,none⟩) 28 c1,.slice (some ⟨b2,o2,none⟩) 28 c2] w fun e w'=>∃ v,e=.returned v∧v=.int .i64 (((if ofBytes (rowF g)≤ofBytes (rowF h) then 1 else 0):Nat):Int)∧Below w.heap.size w w':=by
  intro j hj b n ex q hw hdec hq
  obtain ⟨hb,hs⟩:=brief110 j hj b
  rw [hw] at hb
  rw [scope110,hw] at hs
  simp only [Bool.and_eq_true,decide_eq_true_eq,beq_iff_eq] at hs
  refine calls_brief tabN_ok hb Try.func110 Try.ntmps110 (res:=some 4) ⟨.inr rfl,Try.results110⟩ hs.1.1 hs.1.2 hs.2 (show 2≤35 by decide) (show 2<4095 by decide) s0 β
   (vals:=[.slice (some ⟨b1,o1,none⟩) 28 c1,.slice (some ⟨b2,o2,none⟩) 28 c2]) (fun s hs=>⟨⟨c1,hc1,rfl,lt02⟩,⟨c2,hc2,rfl,lt12⟩,trivial⟩) ?_ ?_ ?_ (fun r q _ _ h=>by cases h) hdec ?_
  ·intro s hs
   refine ⟨lt02,row_nums 28 0 0 fun k hk=>?_,lt12,row_nums 28 28 0 fun k hk=>?_,trivial⟩
   ·obtain ⟨e1,e2⟩:=hg k hk
    rw [Nat.zero_add,hs _ (by omega)]
    show w.cell? ⟨b1,o1+k,none⟩=some (.int .u8 ((if k<28 then g k else h (k - 28):Nat):Int))∧(if k<28 then g k else h (k - 28))<256
    rw [if_pos hk]
    exact ⟨e1,e2⟩
   ·obtain ⟨e1,e2⟩:=hh k hk
    rw [Nat.zero_add,hs _ (by omega)]
    show w.cell? ⟨b2,o2+k,none⟩=some (.int .u8 ((if 28+k<28 then g (28+k) else h (28+k - 28):Nat):Int))∧(if 28+k<28 then g (28+k) else h (28+k - 28))<256
    rw [if_neg (by omega),Nat.add_sub_cancel_left]
    exact ⟨e1,e2⟩
  ·intro r l hl hr
   cases hr
  ·intro r _
   show (if r=0 then (b1,o1) else (b2,o2)).1<_
   split
   ·exact World.block_lt_of_cell? w _ (hg 0 (by decide)).1
   ·exact World.block_lt_of_cell? w _ (hh 0 (by decide)).1
  ·intro s hs hH st' β' a' w' hts hag hr hbe
   have r4:=hr.tm 4 _ (map_get hts 0 4 _ rfl rfl)
   have r4':a'.tmps.getD 4 undef=.int .i64 q:=r4
   exact ⟨_,rfl,by show a'.tmps.getD 4 undef=_; rw [r4',hq],hbe⟩
 have gl:∀ k,k<28→g k<256:=fun k hk=>(hg k hk).2
 have hl:∀ k,k<28→h k<256:=fun k hk=>(hh k hk).2
 rcases first_diff g h 28 with e | ⟨j,hj,e,hne⟩
 ·refine key 28 (by omega) false 84 (fneL 28) 1 rfl ?_ ?_
  ·intro s hs hH i b hb
   have hb':(bif decide (i<56) then none else bif decide (i<56+28) then some false else bif decide (i=56+28) && decide (28<28) then some true else bif decide (i=57+28) && decide (28<28) then some false else none)=some b:=hb
   by_cases h1:i<56
   ·rw [decide_eq_true h1] at hb'; cases hb'
   ·rw [decide_eq_false h1] at hb'
    by_cases h2:i<56+28
    ·rw [decide_eq_true h2] at hb'
     cases hb'
     have:=fneL_holds 28 hH (i - 56) (by omega)
     rw [show 56+(i - 56)=i by omega,hs (i - 56) (by omega),hs (28+(i - 56)) (by omega)] at this
     rw [this,s0g (i - 56) (by omega),s0h (i - 56) (by omega),if_pos (e (i - 56) (by omega))]
     rfl
    ·rw [decide_eq_false h2] at hb'
     simp at hb'
  ·rw [rowF_congr e,if_pos (Nat.le_refl _)]
   rfl
 ·refine key j (by omega) (decide (g j<h j)) (58+j) (.op 4 [.v j,.v (28+j)] :: fneL (j+1)) (bif decide (g j<h j) then 1 else 0) ?_ ?_ ?_
  ·rw [want110,decide_eq_true hj]
   cases decide (g j<h j) <;> rfl
  ·intro s hs hH i b hb
   have hb':(bif decide (i<56) then none else bif decide (i<56+j) then some false else bif decide (i=56+j) && decide (j<28) then some true else bif decide (i=57+j) && decide (j<28) then some (decide (g j<h j)) else none)=some b:=hb
   obtain ⟨hH1,hH2⟩:=hH
   rw [show 58+j - 1=57+j by omega] at hH1 hH2
   have hf:=fneL_holds (j+1) (by rw [show 56+(j+1)=57+j by omega]; exact hH2)
   have sg:∀ k,k<28→s k=g k:=fun k hk=>by
    rw [hs k (by omega)]
    show (if k<28 then g k else _)=g k
    rw [if_pos hk]
   have sh:∀ k,k<28→s (28+k)=h k:=fun k hk=>by
    rw [hs _ (by omega)]
    show (if 28+k<28 then _ else h (28+k - 28))=h k
    rw [if_neg (by omega),Nat.add_sub_cancel_left]
   by_cases h1:i<56
   ·rw [decide_eq_true h1] at hb'; cases hb'
   ·rw [decide_eq_false h1] at hb'
    by_cases h2:i<56+j
    ·rw [decide_eq_true h2] at hb'
     cases hb'
     have:=hf (i - 56) (by omega)
     rw [show 56+(i - 56)=i by omega,sg (i - 56) (by omega),sh (i - 56) (by omega),if_pos (e _ (by omega))] at this
     rw [this]; rfl
    ·rw [decide_eq_false h2,decide_eq_true hj] at hb'
     by_cases h3:i=56+j
     ·subst h3
      rw [decide_eq_true rfl] at hb'
      cases hb'
      rw [hf j (by omega),sg j hj,sh j hj,if_neg hne]
      rfl
     ·rw [decide_eq_false h3] at hb'
      by_cases h4:i=57+j
      ·subst h4
       rw [decide_eq_true rfl] at hb'
       cases hb'
       rw [hH1]
       show (if s j<s (28+j) then 1 else 0)=_
       rw [sg j hj,sh j hj]
       by_cases hlt:g j<h j
       ·rw [if_pos hlt,decide_eq_true hlt]; rfl
       ·rw [if_neg hlt,decide_eq_false hlt]; rfl
      ·rw [decide_eq_false h4] at hb'
       cases hb'
  ·by_cases hlt:g j<h j
   ·have:=ofBytes_cmp (rowF g) (rowF h) j (g j) (h j) (by rw [rowF_len,rowF_len]) (rowF_lt gl) (fun k hk=>by rw [rowF_get g (by omega),rowF_get h (by omega),e k hk]) (rowF_get g hj) (rowF_get h hj) hlt
    rw [decide_eq_true hlt,if_pos (Nat.le_of_lt this)]
    rfl
   ·have:=ofBytes_cmp (rowF h) (rowF g) j (h j) (g j) (by rw [rowF_len,rowF_len]) (rowF_lt hl) (fun k hk=>by rw [rowF_get g (by omega),rowF_get h (by omega),e k hk]) (rowF_get h hj) (rowF_get g hj) (by omega)
    rw [decide_eq_false hlt,if_neg (by omega)]
    rfl
end P224
/- Rows of words; a copy of bytes that are a number below the prime; lessOrEqBytes as a call that the executor knows. -/
namespace P224
open Go Go.RowKit Go.Proofs
set_option maxRecDepth 100000
set_option linter.unusedVariables false
def wordRow (k:IntKind):List A0→Option (List Wd)
 | []=>some []
 | a :: l=>match a.word k,wordRow k l with
  | some x,some m=>some (x :: m)
  | _,_=>none
theorem wordRow_get {k:IntKind}:∀ {l:List A0} {m:List Wd},wordRow k l=some m→m.length=l.length∧∀ (j:Nat) x,m[j]?=some x→∃ a,l[j]?=some a∧a.word k=some x
 | [],m,h=>by cases h; exact ⟨rfl,fun j x h=>by simp at h⟩
 | a :: l,m,h=>by
  simp only [wordRow] at h
  split at h
  ·rename_i y m' hy hm
   cases h
   obtain ⟨h1,h2⟩:=wordRow_get hm
   refine ⟨by simp [h1],fun j x hx=>?_⟩
   cases j with
   | zero=>cases hx; exact ⟨a,rfl,hy⟩
   | succ j=>simpa using h2 j x (by simpa using hx)
  ·cases h
def wordsAt (k:IntKind) (m:List (Nat × List A0)) (r o n:Nat):Option (List Wd) :=
 match cellsAt m r o n with
 | some l=>wordRow k l
 | none=>none
section
variable {s:Nums} {β:Places} {F:Fix} {w0:World} {st:St} {a:Act} {w:World}
theorem wordsAt_rep (h:Rel F s β w0 st a w) {k:IntKind} {r o n:Nat} {l:List Wd} (hw:wordsAt k st.mem r o n=some l) :
  l.length=n∧r<st.nr∧∀ (j:Nat) x,l[j]?=some x→w.cell? (at_ β r (o+j))=some (.int k (x.val s:Int))∧x.val s<2 ^ k.bits:=by
 unfold wordsAt at hw
 split at hw
 ·rename_i m hm
  obtain ⟨q,hq,hlen,hle,hj⟩:=cellsAt_ok (nr:=0) hm
  obtain ⟨hr,hc⟩:=h.mem r q hq
  obtain ⟨g1,g2⟩:=wordRow_get hw
  refine ⟨by omega,hr,fun j x hx=>?_⟩
  obtain ⟨y,hy,hyx⟩:=g2 j x hx
  have hjn:j<n:=by
   have:=(List.getElem?_eq_some_iff.1 hx).1
   omega
  obtain ⟨v,h1,h2⟩:=hc (o+j) y (by rw [← hj j hjn]; exact hy)
  obtain ⟨rfl,h3⟩:=word_rep hyx h2
  exact ⟨h1,h3⟩
 ·cases hw
def vals (s:Nums) (l:List Wd):List Nat:=l.map (Wd.val s)
theorem rowF_of {L:List Nat} (h:L.length=28):rowF (fun k=>L.getD k 0)=L:=by
 refine List.ext_getElem? fun j=>?_
 by_cases hj:j<28
 ·rw [rowF_get _ hj,List.getElem?_eq_getElem (by omega),List.getD_eq_getElem?_getD,List.getElem?_eq_getElem (by omega)]
  rfl
 ·rw [List.getElem?_eq_none (by rw [rowF_len]; omega),List.getElem?_eq_none (by omega)]
theorem words_bytes (h:Rel F s β w0 st a w) {r o:Nat} {l:List Wd} (hw:wordsAt .u8 st.mem r o 28=some l):BytesAt w (β r).1 ((β r).2+o) (fun k=>(vals s l).getD k 0)∧rowF (fun k=>(vals s l).getD k 0)=vals s l:=by
 obtain ⟨h1,h2,h3⟩:=wordsAt_rep h hw
 refine ⟨fun k hk=>?_,rowF_of (by rw [vals,List.length_map,h1])⟩
 obtain ⟨x,hx⟩:∃ x,l[k]?=some x:=⟨l[k]'(by omega),List.getElem?_eq_getElem _⟩
 obtain ⟨g1,g2⟩:=h3 k x hx
 have e:(vals s l).getD k 0=x.val s:=by rw [List.getD_eq_getElem?_getD,vals,List.getElem?_map,hx]; rfl
 rw [at_,← Nat.add_assoc,← e] at g1
 rw [← e] at g2
 exact ⟨g1,g2⟩
theorem ofBytes_by8:∀ (L:List Nat) (k:Nat),(∀ x ∈ L,x<256)→k<L.length→by8 (L.length - 1 - k) (ofBytes L)=L.getD k 0
 | x :: L,0,h,_=>by
  have h1:=ofBytes_lt L fun y hy=>h y (List.mem_cons_of_mem _ hy)
  have h2:=h x List.mem_cons_self
  rw [ofBytes,by8,List.length_cons,Nat.add_sub_cancel,Nat.sub_zero,Nat.add_comm,Nat.add_mul_div_right _ _ (Nat.pow_pos (by decide)),Nat.div_eq_of_lt h1,Nat.zero_add,Nat.mod_eq_of_lt h2]
  rfl
 | x :: L,k+1,h,hk=>by
  simp only [List.length_cons] at hk
  have ih:=ofBytes_by8 L k (fun y hy=>h y (List.mem_cons_of_mem _ hy)) (by omega)
  rw [List.length_cons,show L.length+1 - 1 - (k+1)=L.length - 1 - k by omega,show (x :: L).getD (k+1) 0=L.getD k 0 from rfl,← ih,by8,by8,ofBytes]
  obtain ⟨d,hd⟩:∃ d,L.length=(L.length - 1 - k)+1+d:=⟨k,by omega⟩
  have e:x*256 ^ L.length=256 ^ (L.length - 1 - k)*(256*(x*256 ^ d)):=by
   rw [show (256:Nat) ^ L.length=256 ^ ((L.length - 1 - k)+1+d) by rw [← hd],Nat.pow_add,Nat.pow_succ]
   simp [Nat.mul_comm,Nat.mul_assoc,Nat.mul_left_comm]
  rw [e,Nat.mul_add_div (Nat.pow_pos (by decide)),Nat.mul_add_mod]
def x110:X:=fun F st args=>match args with
 | [.one x,.one y]=>match x.asSl,y.asSl with
  | some (r1,o1,28),some (r2,o2,28)=>match wordsAt .u8 st.mem r1 o1 28,wordsAt .u8 st.mem r2 o2 28 with
   | some l,some m=>some (.one (.bit .i64 st.nx),{ st with nx:=st.nx+1,exs:=.op 11 (l ++ m) :: st.exs })
   | _,_=>none
  | _,_=>none
 | _=>none
end
theorem avs2 {s:Nums} {β:Places} {n:Nat} {x y:AV} {vals:List Value} (h:AVs s β n [x,y] vals):∃ u v,vals=[u,v]∧x.rep s β n u∧y.rep s β n v:=by
 obtain ⟨hl,hg⟩:=h
 match vals,hl,hg with
 | [u,v],_,hg=>exact ⟨u,v,rfl,hg 0 _ u rfl rfl,hg 1 _ v rfl rfl⟩
theorem avs1 {s:Nums} {β:Places} {n:Nat} {x:AV} {vals:List Value} (h:AVs s β n [x] vals):∃ u,vals=[u]∧x.rep s β n u:=by
 obtain ⟨hl,hg⟩:=h
 match vals,hl,hg with
 | [u],_,hg=>exact ⟨u,rfl,hg 0 _ u rfl rfl⟩
theorem avs3 {s:Nums} {β:Places} {n:Nat} {x y z:AV} {vals:List Value} (h:AVs s β n [x,y,z] vals):∃ u v t,vals=[u,v,t]∧x.rep s β n u∧y.rep s β n v∧z.rep s β n t:=by
 obtain ⟨hl,hg⟩:=h
 match vals,hl,hg with
 | [u,v,t],_,hg=>exact ⟨u,v,t,rfl,hg 0 _ u rfl rfl,hg 1 _ v rfl rfl,hg 2 _ t rfl rfl⟩
theorem x110_ok:XOk Try.prog 110 x110:=by
 refine ⟨fun {F st st' args av} h=>?_,fun {s β F w0 st st' a w args vs av} hr h hargs hH=>?_⟩
 ·unfold x110 at h
  split at h
  ·split at h
   ·split at h
    ·cases h; exact ⟨⟨[_],rfl,rfl⟩,Nat.le_refl _⟩
    ·cases h
   ·cases h
  ·cases h
 ·unfold x110 at h
  split at h
  ·rename_i x y
   split at h
   ·rename_i r1 o1 r2 o2 hx hy
    split at h
    ·rename_i l m hl hm
     cases h
     obtain ⟨u,v,rfl,hu,hv⟩:=avs2 hargs
     obtain ⟨⟨c1,hv1,hc1⟩,_⟩:=asSl_rep hx hu
     obtain ⟨⟨c2,hv2,hc2⟩,_⟩:=asSl_rep hy hv
     obtain ⟨hb1,hf1⟩:=words_bytes hr hl
     obtain ⟨hb2,hf2⟩:=words_bytes hr hm
     have hm':=meets110 w (β r1).1 ((β r1).2+o1) c1 (β r2).1 ((β r2).2+o2) c2 _ _ hc1 hc2 hb1 hb2
     rw [hf1,hf2] at hm'
     have he:s st.nx=opVal 11 ((l ++ m).map (Wd.val s)):=hH.1
     have e28:(vals s l).length=28:=by rw [vals,List.length_map]; exact (wordsAt_rep hr hl).1
     have he':s st.nx=if ofBytes (vals s l)≤ofBytes (vals s m) then 1 else 0:=by
      rw [he]
      show (if ofBytes (((l ++ m).map (Wd.val s)).take 28)≤ofBytes (((l ++ m).map (Wd.val s)).drop 28) then 1 else 0)=_
      rw [List.map_append]
      show (if ofBytes ((vals s l ++ vals s m).take 28)≤ofBytes ((vals s l ++ vals s m).drop 28) then 1 else 0)=_
      rw [← e28,List.take_left,List.drop_left]
     intro o' a' next Q hn
     rw [hv1,hv2]
     refine hm' o' a' next Q fun v' w' ⟨hv',hb⟩=>hn _ _ ⟨β,Agree.refl _ _,⟨?_,?_⟩,(hr.nums _ _).kept hb⟩
     ·rw [hv',he']
     ·rw [he']; split <;> omega
    ·cases h
   ·cases h
  ·cases h
def lCopyNum:Lx:=fun F st op=>match op with
 | .call c=>match c.callee,c.args.toList,c.argTypes.toList with
  | .builtin .copy,[x,y],[t,t']=>match st.ev x,st.ev y with
   | .one a,.one b=>match a.asSl,b.asSl with
    | some (r,o,28),some (r2,o2,28)=>bif t == 27 then
      (match wordsAt .u8 st.mem r2 o2 28,F.dec (st.nx+1) with
      | some l,some true=>match write F { st with nx:=st.nx+2,exs:=.op 4 [.v st.nx,.c pq] :: .op 2 l :: st.exs } r o (byts down st.nx) with
       | some st'=>some (.one (.lit (goInt 28)),st')
       | none=>none
      | _,_=>none) else none
    | _,_=>none
   | _,_=>none
  | _,_,_=>none
 | _=>none
theorem lCopyNum_ok:LextOk Try.prog lCopyNum:=by
 refine ⟨fun {F st st' op av} hq=>?_,fun {s β F w0 st st' a w o av} hr hq hH=>?_⟩
 ·unfold lCopyNum at hq
  split at hq
  ·split at hq
   ·split at hq
    ·split at hq
     ·obtain ⟨_,h2⟩:=bif_some hq
      split at h2
      ·split at h2
       ·rename_i hw; cases h2; exact write_grows hw ⟨⟨[_,_],rfl,rfl⟩,Nat.le_refl _⟩
       ·cases h2
      ·cases h2
     ·cases hq
    ·cases hq
   ·cases hq
  ·cases hq
 ·intro next Q hn
  unfold lCopyNum at hq
  split at hq
  ·rename_i c ho
   split at hq
   ·rename_i x y t t' hcal hargs htys
    have hargs':c.args=#[x,y]:=by rw [← Array.toList_inj]; exact hargs
    have htys':c.argTypes=#[t,t']:=by rw [← Array.toList_inj]; exact htys
    split at hq
    ·rename_i xa b hx hy
     split at hq
     ·rename_i r d r2 o2 hsl1 hsl
      obtain ⟨ht1,h2⟩:=bif_some hq
      have ht1:=beq_iff_eq.1 ht1
      subst ht1
      split at h2
      ·rename_i l hl hdec
       split at h2
       ·rename_i st1 hw
        cases h2
        have hxv:=ev_rep hr.tm x
        rw [hx] at hxv
        have hyv:=ev_rep hr.tm y
        rw [hy] at hyv
        obtain ⟨⟨c1,hv1,_⟩,_⟩:=asSl_rep hsl1 hxv
        obtain ⟨⟨c2,hv2,_⟩,_⟩:=asSl_rep hsl hyv
        have h':=hr.nums (st.nx+2) (.op 4 [.v st.nx,.c pq] :: .op 2 l :: st.exs)
        obtain ⟨_,hnx,hex,_⟩:=write_nr hw
        rw [hnx,hex] at hH
        have e1:s (st.nx+1)=if s st.nx<pq then 1 else 0:=hH.1
        have e0:s st.nx=ofBytes (vals s l):=hH.2.1
        have hd:=hr.dec _ _ hdec
        have hlt:s st.nx<pq:=by
         by_cases hc:s st.nx<pq
         ·exact hc
         ·rw [if_neg hc] at e1
          rw [e1] at hd
          cases hd
        obtain ⟨hlen,hrn,hcell⟩:=wordsAt_rep hr hl
        have hvlen:(vals s l).length=28:=by rw [vals,List.length_map,hlen]
        have hbytes:∀ z ∈ vals s l,z<256:=by
         intro z hz
         obtain ⟨q,hq1,rfl⟩:=List.mem_map.1 hz
         obtain ⟨j,hj⟩:=List.getElem?_of_mem hq1
         exact (hcell j q hj).2
        have hconc:(byts down st.nx).map (A0.conc s β)=l.map fun q=>Value.int .u8 (q.val s:Int):=by
         refine List.ext_getElem? fun j=>?_
         rw [List.getElem?_map,List.getElem?_map,byts,List.getElem?_map]
         by_cases hj:j<28
         ·obtain ⟨q,hq⟩:∃ q,l[j]?=some q:=⟨l[j]'(by omega),List.getElem?_eq_getElem _⟩
          rw [List.getElem?_range hj,hq]
          show some (Value.int .u8 (by8 (27 - j) (s st.nx):Int))=some (.int .u8 (q.val s:Int))
          have:=ofBytes_by8 (vals s l) j hbytes (by omega)
          rw [hvlen] at this
          rw [e0,show 27 - j=28 - 1 - j by omega,this,List.getD_eq_getElem?_getD,vals,List.getElem?_map,hq]
          rfl
         ·rw [List.getElem?_eq_none (l:=List.range 28) (by simp; omega),List.getElem?_eq_none (l:=l) (by omega)]
          rfl
        obtain ⟨_,hrm⟩:=room_of h' hw (n:=28) (by simp [byts])
        have hrun:=run_copy_cells (P:=Try.prog) w 27 t' o.type 5 (β r).1 ((β r).2+d) 28 c1 (at_ β r2 o2) 28 c2 (l.map fun q=>Value.int .u8 (q.val s:Int)) Try.underlying27 (by kernel_rfl) (by rw [List.length_map,hlen]; rfl)
         (fun j v hv=>by
          rw [List.getElem?_map] at hv
          cases hlj:l[j]? with
          | none=>rw [hlj] at hv; cases hv
          | some q=>rw [hlj] at hv; cases hv; rw [at_add]; exact (hcell j q hlj).1)
         (fun j hj=>by
          rw [List.length_map,hlen] at hj
          obtain ⟨⟨v,hv⟩,_⟩:=hrm j hj
          rw [hv]; rfl)
         (fun j hj=>by
          rw [List.length_map,hlen] at hj
          exact (hrm j hj).2)
         (fun v hv=>by
          obtain ⟨q,_,rfl⟩:=List.mem_map.1 hv
          rfl)
        rw [List.length_map,hlen,← hconc] at hrun
        have hv1':a.eval x=.slice (some ⟨(β r).1,(β r).2+d,none⟩) 28 c1:=hv1
        have hrun':(execOp a.eval o).run Try.prog w=.ok (.value (goInt 28)) (w.setCells (β r).1 ((β r).2+d) ((byts down st.nx).map (A0.conc s β))):=by
         simp only [execOp,ho,resolve,hcal,hargs',htys',Sem.run_bind,Sem.run_pure,Result.andThen,invoke,builtin,List.map_toArray,List.map_cons,List.map_nil,hv1',hv2,hrun]
         rfl
        exact upon_value_ok hrun' (hn _ _ ⟨β,Agree.refl _ _,rfl,h'.wrote hw (Below.refl _ _) (byts_rep hlt)⟩)
       ·cases h2
      ·cases h2
     ·cases hq
    ·cases hq
   ·cases hq
  ·cases hq
def tabY (prims:List (Nat × Prim)) (xs:List (Nat × X)):Tab:={ tabX true prims xs with lext:=Lx.or lCopyNum (Lx.or (lCalls xs) (lBld bldT)) }
theorem tabY_ok {prims:List (Nat × Prim)} {xs:List (Nat × X)} (hp:∀ f p,(f,p) ∈ prims→PrimOk Try.prog f p) (hx:∀ f g,(f,g) ∈ xs→XOk Try.prog f g):(tabY prims xs).Ok Try.prog :=
 let h:=tabX_ok (asElem:=true) hp hx
 {
  mixed:=h.mixed,arr:=h.arr,fld:=h.fld,var:=h.var,zero:=h.zero,bld:=h.bld,slc:=h.slc,mks:=h.mks,kind:=h.kind,elem:=h.elem,prim:=h.prim,qext:=h.qext
  lext:=LextOk.or lCopyNum_ok (LextOk.or (lCalls_ok hx) (lBld_ok bldT_ok)) }
end P224
/- Runs in brief with all results and with the new regions; an element out of bytes. -/
namespace P224
open Go Go.RowKit Go.Proofs
set_option maxRecDepth 100000
set_option linter.unusedVariables false
structure BriefR where
 o:Out
 nx:Nat
 exs:List Ex
 out:List (Nat × Nat × A0)
 res:List AV
 mem:List (Option (List A0))
def briefR (T:Tab) (fn:Func) (rs:List Nat) (r:Option (Out × St)):Option BriefR :=
 match r with
 | some (o,st)=>match resAll T st fn.results.toList with
  | some l=>some ⟨o,st.nx,st.exs,st.out,l,rs.map fun r=>lookup r st.mem⟩
  | none=>none
 | none=>none
theorem briefR_spec {T:Tab} {fn:Func} {rs:List Nat} {r:Option (Out × St)} {b:BriefR} (h:briefR T fn rs r=some b) :
  ∃ st,r=some (b.o,st)∧st.nx=b.nx∧st.exs=b.exs∧st.out=b.out∧resAll T st fn.results.toList=some b.res∧(rs.map fun r=>lookup r st.mem)=b.mem:=by
 unfold briefR at h
 split at h
 ·split at h
  ·rename_i l hl
   cases h
   exact ⟨_,rfl,rfl,rfl,rfl,hl,rfl⟩
  ·cases h
 ·cases h
def Out.ends:Out→Bool
 | .normal | .ret=>true
 | .exit _=>false
theorem calls_briefR {T:Tab} (hT:T.Ok Try.prog) {g:FuncId} {fn:Func} {F:Fix} {fuel nx0:Nat} {args:List AV} {mem:List (Nat × List A0)} {rs:List Nat} {b:BriefR}
  (hb:briefR T fn rs (runF T F fuel fn (startSt args mem nx0 F.nold))=some b) (hf:Try.prog.funcs[g]?=some fn) (hnt:fn.ntmps=F.nt) (ho:b.o.ends=true)
  (hsc:inScope b.nx b.exs=true) (hle:b.exs.length≤b.nx) (hn0:b.nx - b.exs.length=nx0) (ha1:args.length≤F.nt) (ha2:args.length<4095)
  (s0:Nums) (β:Places) {w:World} {vals:List Value} {R:Ending→World→Prop}
  (hargs:∀ s:Nums,(∀ i,i<nx0→s i=s0 i)→ArgsOk s β F.nold args vals)
  (hmem:∀ s:Nums,(∀ i,i<nx0→s i=s0 i)→MemOk s β F.nold w mem)
  (hfrz:∀ r l,lookup r mem=some l→F.wr r=true→∀ j,j<l.length→w.frozen? (at_ β r j)=false)
  (hold:∀ r,r<F.nold→(β r).1<w.heap.size) (hsep:∀ r q,r<F.nold→q<F.nold→F.sep r q=true→(β r).1≠(β q).1)
  (hdec:∀ s:Nums,(∀ i,i<nx0→s i=s0 i)→Holds s b.nx b.exs→Dec F s)
  (fin:∀ s:Nums,(∀ i,i<nx0→s i=s0 i)→Holds s b.nx b.exs→∀ (st':St) (β':Places) (a':Act) (w':World) (v:Value),(resAV b.res).rep s β' st'.nr v→(rs.map fun r=>lookup r st'.mem)=b.mem→Agree β β' F.nold→Rel F s β' w st' a' w' →
   Below w.heap.size (applyOut s β' w b.out) w'→R (.returned v) w')
  (hnp:∀ s:Nums,(∀ i,i<nx0→s i=s0 i)→∀ r i j,F.np r=some (i,j)→r<F.nold∧Flag w (β r) (s i) (s j):=by
   intro s hs r i j h
   exact absurd (show (none:Option (Nat × Nat))=some (i,j) from h) (by simp)):Calls Try.prog g vals.toArray w R:=by
 obtain ⟨st',hrun,hnx,hexs,hout,hres,hmm⟩:=briefR_spec hb
 obtain ⟨c,hc,hrun⟩:=calls_of_runF hrun
 obtain ⟨s,hH,hs0⟩:=exists_nums s0 hle hsc
 rw [hn0] at hs0
 obtain ⟨hlen,hget⟩:=(hargs s hs0).get
 have hstart:Rel F s β w (startSt args mem nx0 F.nold) { tmps:=vals.toArray ++ Array.replicate (fn.ntmps - vals.toArray.size) undef,defers:=[] } w :=
  rel_start hlen hnt ha1 ha2 hget (hmem s hs0).get hfrz hold hsep (hdec s hs0 hH) (hnp s hs0)
 refine calls_of_wp hf hc (run_wp hT hstart hrun (by rw [hnx,hexs]; exact hH) fun β' a' w' hag hr=>?_)
 have hbe:=hr.below
 rw [hout] at hbe
 obtain ⟨v,hv1,hv2⟩:=results_run hT hr hres
 have:=fin s hs0 hH st' β' a' w' v hv2 hmm hag hr hbe
 cases hoo:b.o with
 | normal=>exact ⟨hr.defs,v,hv1,this⟩
 | ret=>exact ⟨hr.defs,v,hv1,this⟩
 | exit i=>rw [hoo] at ho; cases ho
def BriefR.fit (b:BriefR) (nx0:Nat):Bool:=b.o.ends && inScope b.nx b.exs && decide (b.exs.length≤b.nx) && (b.nx - b.exs.length == nx0)
noncomputable def x115:List (Nat × X):=with1 [] bytePrims 2000 115 Try.f115
noncomputable def x100:List (Nat × X):=with1 x115 bytePrims 2000 100 Try.f100
noncomputable def xs94:List (Nat × X):=(110,x110) :: with1 x100 [] 2000 78 Try.f78
theorem bytePrims_ok:∀ f p,(f,p) ∈ bytePrims→PrimOk Try.prog f p:=fun f p h=>by
 simp only [bytePrims,elemPrims0,List.cons_append,List.nil_append,List.mem_cons,List.not_mem_nil,or_false,Prod.mk.injEq] at h
 rcases h with h | h | h | h | h | h | h | h | h | h | h | h | h | h <;> obtain ⟨rfl,rfl⟩:=h
 ·exact meets89
 ·exact meets88
 ·exact meets90
 ·exact meets92
 ·exact meets93
 ·exact meets77
 ·exact meets105
 ·exact meets99
 ·exact meets123
 ·exact meets124
 ·exact meets111
 ·exact meets112
 ·exact meets113
 ·exact meets114
theorem noPrims_ok:∀ f p,(f,p) ∈ ([]:List (Nat × Prim))→PrimOk Try.prog f p:=fun _ _ h=>by cases h
abbrev XsOk (xs:List (Nat × X)):Prop:=∀ f g,(f,g) ∈ xs→XOk Try.prog f g
theorem xnil_ok:XsOk []:=fun _ _ h=>by cases h
theorem xcons_ok {f:Nat} {g:X} {xs:List (Nat × X)} (h:XOk Try.prog f g) (hx:XsOk xs):XsOk ((f,g) :: xs):=fun f' g' hm=>by
 rcases List.mem_cons.1 hm with e | hm
 ·cases e; exact h
 ·exact hx f' g' hm
theorem with1_ok {xs : List (Nat × X)} {prims : List (Nat × Prim)} {fuel f : Nat} {fn : Func} (hp : ∀ f p, (f, p) ∈ prims → PrimOk Try.prog f p) (hx : XsOk xs) (hf : Try.prog.funcs[f]? = some fn) (hname : (fn.name == "runtime.NumGoroutine") = false) :
  XsOk (with1 xs prims fuel f fn):=xcons_ok (inlX_ok (tabX_ok hp hx) fuel hf hname) hx
theorem x115_ok:XsOk x115:=with1_ok bytePrims_ok xnil_ok Try.func115 (by kernel_rfl)
theorem x100_ok:XsOk x100:=with1_ok bytePrims_ok x115_ok Try.func100 (by kernel_rfl)
theorem xs94_ok:XsOk xs94:=xcons_ok x110_ok (with1_ok noPrims_ok x100_ok Try.func78 (by kernel_rfl))
def st94:St:=startSt [.one (.ptr 0 0),.one (.sl 1 0 28)] [(0,[.any,.any,.any,.any]),(1,numsFrom .u8 0 28)] 28 2
def fix94 (d:List (Nat × Bool)):Fix:={ nt:=35,nold:=2,wr:=fun r=>r == 0,sep:=fun _ _=>false,dec:=fun i=>findT i d }
def vs28:Nat→List Wd
 | 0=>[]
 | n+1=>vs28 n ++ [.v n]
def bs28 (i:Nat):List Wd:=(List.range 28).map fun k=>.b i (27 - k)
def ex94:List Ex:=[.feq (.v 33) (.c 0),.op 11 (vs28 28 ++ bs28 32),.fsub (.v 29) (.v 31),.fcst 1,.fcst 0,.fcst 0,.fcst 0]
def ex94a:List Ex:=.op 4 [.v 35,.c pq] :: .op 2 (vs28 28) :: ex94
def b94a:BriefR:=⟨.ret,37,ex94a,[(0,3,.limb 35 3),(0,2,.limb 35 2),(0,1,.limb 35 1),(0,0,.limb 35 0)],[.one (.ptr 0 0),.one (.lit .nilIface)],[]⟩
def b94b:BriefR:=⟨.ret,35,ex94,[],[.one (.lit (.pointer none)),.one .err],[]⟩
theorem run94a:briefR (tabY bytePrims xs94) Try.f94 [] (runF (tabY bytePrims xs94) (fix94 [(34,false),(36,true)]) 2000 Try.f94 st94)=some b94a:=by kernel_rfl
theorem run94b:briefR (tabY bytePrims xs94) Try.f94 [] (runF (tabY bytePrims xs94) (fix94 [(34,true)]) 2000 Try.f94 st94)=some b94b:=by kernel_rfl
theorem vals_vs28 {s:Nums} {g:Nat→Nat} (h:∀ k,k<28→s k=g k):(vs28 28).map (Wd.val s)=rowF g:=by
 show [s 0,s 1,s 2,s 3,s 4,s 5,s 6,s 7,s 8,s 9,s 10,s 11,s 12,s 13,s 14,s 15,s 16,s 17,s 18,s 19,s 20,s 21,s 22,s 23,s 24,s 25,s 26,s 27]=_
 refine List.ext_getElem? fun j=>?_
 by_cases hj:j<28
 ·rw [rowF_get g hj,← h j hj]
  have:j=0∨j=1∨j=2∨j=3∨j=4∨j=5∨j=6∨j=7∨j=8∨j=9∨j=10∨j=11∨j=12∨j=13∨j=14∨j=15∨j=16∨j=17∨j=18∨j=19∨j=20∨j=21∨j=22∨j=23∨j=24∨j=25∨j=26∨j=27:=by omega
  rcases this with rfl | rfl | rfl | rfl | rfl | rfl | rfl | rfl | rfl | rfl | rfl | rfl | rfl | rfl | rfl | rfl | rfl | rfl | rfl | rfl | rfl | rfl | rfl | rfl | rfl | rfl | rfl | rfl <;> rfl
 ·rw [List.getElem?_eq_none (by simp; omega),List.getElem?_eq_none (by rw [rowF_len]; omega)]
theorem ofBytes_bytes (x:Nat):∀ n:Nat,ofBytes ((List.range n).map fun k=>by8 (n - 1 - k) x)=x % 256 ^ n
 | 0=>by simp [ofBytes,Nat.mod_one]
 | n+1=>by
  rw [List.range_succ_eq_map,List.map_cons,List.map_map,ofBytes,List.length_map,List.length_range]
  have ih:=ofBytes_bytes x n
  have e:(List.range n).map ((fun k=>by8 (n+1 - 1 - k) x) ∘ Nat.succ)=(List.range n).map fun k=>by8 (n - 1 - k) x:=by
   refine List.map_congr_left fun k hk=>?_
   show by8 (n+1 - 1 - (k+1)) x=_
   rw [show n+1 - 1 - (k+1)=n - 1 - k by omega]
  rw [e,ih,Nat.add_sub_cancel,Nat.sub_zero,by8,Nat.pow_succ,Nat.mod_mul,Nat.add_comm,Nat.mul_comm]
theorem vals_bs28 {s:Nums} {i:Nat} (h:s i<pq):ofBytes ((bs28 i).map (Wd.val s))=s i:=by
 have:=ofBytes_bytes (s i) 28
 rw [Nat.mod_eq_of_lt (Nat.lt_trans h (by decide +kernel))] at this
 rw [bs28,List.map_map]
 exact this
end P224
/- SetBytes of an element: what it does, and as a call that the executor knows. -/
namespace P224
open Go Go.RowKit Go.Proofs
set_option maxRecDepth 100000
set_option linter.unusedVariables false
theorem mod_one_pq:1 % pq=1:=by decide +kernel
theorem half_pq:(0 % pq+(pq - 1 % pq)) % pq=pq - 1:=by decide +kernel
theorem f94_0x:pq - 1<pq:=by decide +kernel
theorem f94_1 {s:Nums} (h:Holds s 35 ex94):s 32=pq - 1:=by
 obtain ⟨h34,h33,h32,h31,_,h29,_⟩:=h
 have e31:s 31=1 % pq:=h31
 have e29:s 29=0 % pq:=h29
 have e32:s 32=(s 29+(pq - s 31)) % pq:=h32
 rw [e29,e31,half_pq] at e32
 exact e32
theorem f94_2 {s:Nums} (h:Holds s 35 ex94):s 33=opVal 11 ((vs28 28 ++ bs28 32).map (Wd.val s)):=h.2.1
theorem f94_3 (l:List Nat):opVal 11 l=if ofBytes (l.take 28)≤ofBytes (l.drop 28) then 1 else 0:=rfl
theorem f94_4 {s:Nums} (e32:s 32=pq - 1):ofBytes ((bs28 32).map (Wd.val s))=pq - 1:=by
 rw [vals_bs28 (s:=s) (i:=32) (by rw [e32]; exact f94_0x)]; exact e32
theorem f94_5 (g:Nat→Nat) (l:List Nat):(rowF g ++ l).take 28=rowF g:=by
 have:=List.take_left (l₁:=rowF g) (l₂:=l)
 rwa [rowF_len] at this
theorem f94_6 (g:Nat→Nat) (l:List Nat):(rowF g ++ l).drop 28=l:=by
 have:=List.drop_left (l₁:=rowF g) (l₂:=l)
 rwa [rowF_len] at this
theorem f94_7 (N a b:Nat) (ha:a=if N≤pq - 1 then 1 else 0) (hb:b=if a=0 then 1 else 0):b=if N<pq then 0 else 1:=by
 have hp:=pq_pos
 generalize pq=p at *
 subst ha
 by_cases h:N<p
 ·rw [if_pos (show N≤p - 1 by omega)] at hb
  rw [if_pos h]; exact hb
 ·rw [if_neg (show ¬ N≤p - 1 by omega)] at hb
  rw [if_neg h]; exact hb
theorem facts94 {s:Nums} {g:Nat→Nat} (hs:∀ i,i<28→s i=g i) (h:Holds s 35 ex94):s 34=if ofBytes (rowF g)<pq then 0 else 1:=by
 have e33:=f94_2 h
 rw [List.map_append,vals_vs28 hs,f94_3,f94_5,f94_6,f94_4 (f94_1 h)] at e33
 exact f94_7 _ _ _ e33 h.1
section
variable (w:World) (b o b1 o1 c:Nat) (g:Nat→Nat) (hlt:b<w.heap.size) (hroom:RoomAt w b o) (hc:28≤c) (hg:BytesAt w b1 o1 g)
include hlt hroom hc hg
theorem start94 (d:List (Nat × Bool)) (br:BriefR) (hbr:briefR (tabY bytePrims xs94) Try.f94 [] (runF (tabY bytePrims xs94) (fix94 d) 2000 Try.f94 st94)=some br) (hfit:br.fit 28=true)
  (hdec:∀ s:Nums,(∀ i,i<28→s i=g i)→Holds s br.nx br.exs→Dec (fix94 d) s) {R:Ending→World→Prop}
  (fin:∀ s:Nums,(∀ i,i<28→s i=g i)→Holds s br.nx br.exs→∀ (β:Places) (n:Nat) (v:Value) (w':World),β 0=(b,o)→(resAV br.res).rep s β n v→Below w.heap.size (applyOut s β w br.out) w'→R (.returned v) w') :
  Calls Try.prog 94 #[ptrTo b o,.slice (some ⟨b1,o1,none⟩) 28 c] w R:=by
 simp only [BriefR.fit,Bool.and_eq_true,decide_eq_true_eq,beq_iff_eq] at hfit
 obtain ⟨⟨⟨h1,h2⟩,h3⟩,h4⟩:=hfit
 let β:Places:=fun r=>if r=0 then (b,o) else (b1,o1)
 refine calls_briefR (F:=fix94 d) (tabY_ok bytePrims_ok xs94_ok) hbr Try.func94 Try.ntmps94 h1 h2 h3 h4 (show 2≤35 by decide) (show 2<4095 by decide) g β
  (vals:=[ptrTo b o,.slice (some ⟨b1,o1,none⟩) 28 c]) (fun s hs=>⟨⟨rfl,lt02⟩,⟨c,hc,rfl,lt12⟩,trivial⟩) ?_ ?_ ?_ (fun r q _ _ h=>by cases h) hdec ?_
 ·intro s hs
  refine ⟨lt02,any4_row rfl hroom,lt12,row_nums 28 0 0 fun k hk=>?_,trivial⟩
  obtain ⟨e1,e2⟩:=hg k hk
  rw [Nat.zero_add,hs _ hk]
  exact ⟨e1,e2⟩
 ·intro r l hl hr
  have h0:r=0:=beq_iff_eq.1 hr
  subst h0
  cases hl
  exact any4_frz rfl hroom
 ·intro r _
  show (if r=0 then (b,o) else (b1,o1)).1<_
  split
  ·exact hlt
  ·exact World.block_lt_of_cell? w _ (hg 0 (by decide)).1
 ·intro s hs hH st' β' a' w' v hv _ hag hr hbe
  exact fin s hs hH β' st'.nr v w' (hag 0 lt02) hv hbe
theorem meets94a (hN:ofBytes (rowF g)<pq):Meets Try.prog 94 #[ptrTo b o,.slice (some ⟨b1,o1,none⟩) 28 c] w fun v w'=>v=.tuple #[ptrTo b o,.nilIface]∧Below w.heap.size (w.setCells b o (words (ofBytes (rowF g)))) w':=by
 refine meets_of_calls Try.func94 (by kernel_rfl) (by kernel_rfl) ?_
 refine start94 w b o b1 o1 c g hlt hroom hc hg _ _ run94a (by decide +kernel) ?_ ?_
 ·intro s hs hH i bb hb
  obtain ⟨h36,h35,hH⟩:=hH
  have f:=facts94 hs hH
  have e35:s 35=ofBytes ((vs28 28).map (Wd.val s)):=h35
  rw [vals_vs28 hs] at e35
  have e36:s 36=if s 35<pq then 1 else 0:=h36
  rw [e35,if_pos hN] at e36
  rw [if_pos hN] at f
  have hb':findT i [(34,false),(36,true)]=some bb:=hb
  have:=findT_mem hb'
  simp only [List.mem_cons,List.not_mem_nil,or_false,Prod.mk.injEq] at this
  rcases this with ⟨rfl,rfl⟩|⟨rfl,rfl⟩
  ·exact f
  ·exact e36
 ·intro s hs hH β n v w' hβ hv hbe
  obtain ⟨h36,h35,hH⟩:=hH
  have e35:s 35=ofBytes ((vs28 28).map (Wd.val s)):=h35
  rw [vals_vs28 hs] at e35
  obtain ⟨vs,rfl,hl⟩:=hv
  match vs,hl with
  | [v1,v2],⟨hv1,hv2,_⟩ =>
  have e1:v1=.pointer (some (at_ β 0 0)):=hv1.1
  have e2:v2=.nilIface:=hv2
  refine ⟨_,rfl,?_,?_⟩
  ·rw [e1,e2,at_,hβ]
   rfl
  ·have e:applyOut s β w [(0,3,A0.limb 35 3),(0,2,.limb 35 2),(0,1,.limb 35 1),(0,0,.limb 35 0)]=w.setCells b o (words (ofBytes (rowF g))):=by
    rw [← e35]
    show ((((w.setCell (at_ β 0 0) _).setCell (at_ β 0 1) _).setCell (at_ β 0 2) _).setCell (at_ β 0 3) _)=_
    simp only [at_,hβ]
    rfl
   have hbe':Below w.heap.size (applyOut s β w [(0,3,A0.limb 35 3),(0,2,.limb 35 2),(0,1,.limb 35 1),(0,0,.limb 35 0)]) w':=hbe
   rw [e] at hbe'
   exact hbe'
theorem meets94b (hN:¬ ofBytes (rowF g)<pq):Meets Try.prog 94 #[ptrTo b o,.slice (some ⟨b1,o1,none⟩) 28 c] w fun v w'=>(∃ t u,v=.tuple #[.pointer none,.iface t u])∧Below w.heap.size w w':=by
 refine meets_of_calls Try.func94 (by kernel_rfl) (by kernel_rfl) ?_
 refine start94 w b o b1 o1 c g hlt hroom hc hg _ _ run94b (by decide +kernel) ?_ ?_
 ·intro s hs hH i bb hb
  have f:=facts94 hs hH
  rw [if_neg hN] at f
  have hb':findT i [(34,true)]=some bb:=hb
  have:=findT_mem hb'
  simp only [List.mem_cons,List.not_mem_nil,or_false,Prod.mk.injEq] at this
  obtain ⟨rfl,rfl⟩:=this
  exact f
 ·intro s hs hH β n v w' hβ hv hbe
  obtain ⟨vs,rfl,hl⟩:=hv
  match vs,hl with
  | [v1,v2],⟨hv1,hv2,_⟩ =>
  have e1:v1=.pointer none:=hv1
  obtain ⟨t,u,e2⟩:=hv2
  exact ⟨_,rfl,⟨t,u,by rw [e1,e2]⟩,hbe⟩
end
def x94:X:=fun F st args=>match args with
 | [.one (.ptr r o),.one y]=>match y.asSl with
  | some (r2,o2,28)=>match wordsAt .u8 st.mem r2 o2 28,F.dec (st.nx+1) with
   | some l,some true=>match write F { st with nx:=st.nx+2,exs:=.op 4 [.v st.nx,.c pq] :: .op 2 l :: st.exs } r o (limbs st.nx) with
    | some st'=>some (.tup [.one (.ptr r o),.one (.lit .nilIface)],st')
    | none=>none
   | some l,some false=>match write F { st with nx:=st.nx+2,exs:=.op 4 [.v st.nx,.c pq] :: .op 2 l :: st.exs } r o (limbs 0) with
    | some _=>some (.tup [.one (.lit (.pointer none)),.one .err],{ st with nx:=st.nx+2,exs:=.op 4 [.v st.nx,.c pq] :: .op 2 l :: st.exs })
    | none=>none
   | _,_=>none
  | _=>none
 | _=>none
theorem x94_ok:XOk Try.prog 94 x94:=by
 refine ⟨fun {F st st' args av} h=>?_,fun {s β F w0 st st' a w args vs av} hr h hargs hH=>?_⟩
 ·unfold x94 at h
  split at h
  ·split at h
   ·split at h
    ·split at h
     ·rename_i hw; cases h; exact write_grows hw ⟨⟨[_,_],rfl,rfl⟩,Nat.le_refl _⟩
     ·cases h
    ·split at h
     ·cases h; exact ⟨⟨[_,_],rfl,rfl⟩,Nat.le_refl _⟩
     ·cases h
    ·cases h
   ·cases h
  ·cases h
 ·unfold x94 at h
  split at h
  ·rename_i r o y
   obtain ⟨u,v,rfl,hu,hv⟩:=avs2 hargs
   obtain ⟨rfl,hrn⟩:=hu
   split at h
   ·rename_i r2 o2 hy
    obtain ⟨⟨c2,hv2,hc2⟩,_⟩:=asSl_rep hy hv
    split at h
    ·rename_i l hl hdec
     split at h
     ·rename_i st1 hw
      cases h
      obtain ⟨hb2,hf2⟩:=words_bytes hr hl
      have h':=hr.nums (st.nx+2) (.op 4 [.v st.nx,.c pq] :: .op 2 l :: st.exs)
      obtain ⟨hnr,hnx,hex,_⟩:=write_nr hw
      rw [hnx,hex] at hH
      have e1:s (st.nx+1)=if s st.nx<pq then 1 else 0:=hH.1
      have e0:s st.nx=ofBytes (vals s l):=hH.2.1
      have hd:=hr.dec _ _ hdec
      have hlt:s st.nx<pq:=by
       by_cases hc:s st.nx<pq
       ·exact hc
       ·rw [if_neg hc] at e1
        rw [e1] at hd
        cases hd
      obtain ⟨_,hroom⟩:=room_of h' hw rfl
      have hm:=meets94a w (β r).1 ((β r).2+o) (β r2).1 ((β r2).2+o2) c2 _ (hr.block_lt hrn) (fun k hk=>hroom k hk) hc2 hb2 (by rw [hf2,← e0]; exact hlt)
      rw [hf2,← e0] at hm
      intro o' a' next Q hn
      rw [hv2]
      refine hm o' a' next Q fun v' w' ⟨hv',hb⟩=>hn _ _ ?_
      refine ⟨β,Agree.refl _ _,⟨[_,_],hv',⟨rfl,?_⟩,rfl,trivial⟩,h'.wrote hw (by rw [limbs_conc]; exact hb) (limbs_rep hlt)⟩
      rw [hnr]
      exact hrn
     ·cases h
    ·rename_i l hl hdec
     split at h
     ·rename_i st1 hw
      cases h
      obtain ⟨hb2,hf2⟩:=words_bytes hr hl
      have h':=hr.nums (st.nx+2) (.op 4 [.v st.nx,.c pq] :: .op 2 l :: st.exs)
      have e1:s (st.nx+1)=if s st.nx<pq then 1 else 0:=hH.1
      have e0:s st.nx=ofBytes (vals s l):=hH.2.1
      have hd:=hr.dec _ _ hdec
      have hlt:¬ s st.nx<pq:=by
       intro hc
       rw [if_pos hc] at e1
       rw [e1] at hd
       cases hd
      obtain ⟨_,hroom⟩:=room_of h' hw rfl
      have hm:=meets94b w (β r).1 ((β r).2+o) (β r2).1 ((β r2).2+o2) c2 _ (hr.block_lt hrn) (fun k hk=>hroom k hk) hc2 hb2 (by rw [hf2,← e0]; exact hlt)
      intro o' a' next Q hn
      rw [hv2]
      refine hm o' a' next Q fun v' w' ⟨⟨t,q,hv'⟩,hb⟩=>hn _ _ ?_
      exact ⟨β,Agree.refl _ _,⟨[_,_],hv',rfl,⟨t,q,rfl⟩,trivial⟩,h'.kept hb⟩
     ·cases h
    ·cases h
   ·cases h
  ·cases h
end P224
