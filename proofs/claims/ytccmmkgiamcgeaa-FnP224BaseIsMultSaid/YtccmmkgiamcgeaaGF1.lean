/- The table of types of the program of P-224, and the calls of math/bits by their contracts. -/
import Derived.Test.YtccmmkgiamcgeaaProg
import Derived.KernelRfl
import Derived.Laws.Externs
import Derived.Lib.Mul64
import Derived.Deep.OwnRows
import Derived.Test.YtccmmkgiamcgeaaGE1
import Derived.Test.YtccmmkgiamcgeaaGM1
set_option linter.all false
namespace P224
open Go Go.RowKit Go.Proofs
def findT {α:Type} (t:Nat):List (Nat × α)→Option α
 | []=>none
 | (k,x) :: l=>bif k == t then some x else findT t l
theorem findT_mem {α:Type} {t:Nat} {x:α}:∀ {l:List (Nat × α)},findT t l=some x→(t,x) ∈ l
 | (k,y) :: l,h=>by
  rw [findT] at h
  cases hb:(k == t) with
  | true =>
   rw [hb,cond_true] at h
   cases h
   rw [beq_iff_eq.1 hb]
   exact List.mem_cons_self
  | false =>
   rw [hb,cond_false] at h
   exact List.mem_cons_of_mem _ (findT_mem h)
def zeros (n:Nat) (k:IntKind):List Value:=List.replicate n (.int k 0)
def arrL:List (Nat × Nat × Nat):=[(93,4,1),(94,4,1),(136,4,1),(22,28,1),(104,15,1),(123,56,15),(155,96,4),(106,57,1),(111,29,1),(63,2,1)]
def fldL:List (Nat × List Nat):=[(96,[0]),(99,[0,1,2]),(25,[0,1,2,3]),(35,[0,1,2]),(73,[0,1,2])]
def varL:List (Nat × Bool × Nat):=[(92,false,1),(5,false,1),(91,false,1),(64,false,1),(3,false,1),(2,false,1),(4,false,1),(27,false,1),(33,false,1),(23,false,1),(66,false,1),(94,true,4),(93,true,4),(25,true,4),(35,true,3),(73,true,3),(63,true,2),(104,true,15)]
def zeroL:List (Nat × List Value):=[(92,zeros 1 .u64),(136,zeros 4 .u64),(96,zeros 4 .u64),(22,zeros 28 .u8),(106,zeros 57 .u8),(111,zeros 29 .u8),(25,[.int .i64 0,.int .i64 0,.int .i64 0,.slice none 0 0]),(35,[.bool false,.slice none 0 0,.slice none 0 0]),(73,[.slice none 0 0,.slice none 0 0,.slice none 0 0]),(63,[.int .i64 0,.int .i64 0]),(104,List.replicate 15 (.pointer none)),(123,List.replicate 840 (.pointer none)),(155,zeros 384 .u64)]
def bldL:List (Nat × List Value):=[(99,[.pointer none,.pointer none,.pointer none]),(25,[.int .i64 0,.int .i64 0,.int .i64 0,.slice none 0 0]),(35,[.bool false,.slice none 0 0,.slice none 0 0]),(73,[.slice none 0 0,.slice none 0 0,.slice none 0 0]),(63,[.int .i64 0,.int .i64 0]),(104,List.replicate 15 (.pointer none)),(122,[.string ⟨#[]⟩])]
def slcL:List (Nat × Nat):=[(27,1),(33,1),(32,1),(23,2),(85,1)]
def mkL:List (Nat × Value):=[(27,.int .u8 0),(33,.int .i64 0),(32,.int .i64 0)]
def kindL:List (Nat × IntKind):=[(92,.u64),(146,.u64),(5,.u8),(3,.i64),(2,.i64)]
def tabOf (asElem:Bool) (prims:List (Nat × Prim)):Tab where
 arr:=fun t=>findT t arrL
 fld:=fun t f=>match findT t fldL with
  | some l=>l[f]?
  | none=>none
 var:=fun t=>findT t varL
 zero:=fun t=>findT t zeroL
 bld:=fun t=>findT t bldL
 slc:=fun t=>findT t slcL
 mks:=fun t=>findT t mkL
 kind:=fun t=>findT t kindL
 elem:=fun t=>asElem && t == 96
 prim:=fun f=>findT f prims
 qext:=fun _ _ _ _=>none
 lext:=fun _ _ _=>none
theorem info_size {P:Program} {t n:Nat} (h:(P.info? t).map (·.size)=some n):∃ i,P.info? t=some i∧i.size=n:=by
 cases hi:P.info? t with
 | none=>rw [hi] at h; cases h
 | some i=>rw [hi] at h; cases h; exact ⟨i,rfl,rfl⟩
theorem arr_of {P:Program} {t n e z:Nat} (h1:P.underlying t=some (.array n e)) (h2:(P.info? e).map (·.size)=some z) :
  ∃ e i,P.underlying t=some (.array n e)∧P.info? e=some i∧i.size=z:=by
 obtain ⟨i,hi,hs⟩:=info_size h2
 exact ⟨e,i,h1,hi,hs⟩
theorem var_of {P:Program} {t n:Nat} {g:Bool} {d:TypeDesc} (h1:P.underlying t=some d) (hg:(match d with | .struct _ | .array _ _=>true | _=>false)=g) (h2:(P.info? t).map (·.size)=some n) :
  (∀ w,(isAgg t).run P w=.ok g w)∧∃ i,P.info? t=some i∧i.size=n:=by
 refine ⟨fun w=>?_,info_size h2⟩
 simp only [isAgg,Sem.run_bind,run_underlying h1,Result.andThen]
 cases d <;> simp only at hg <;> subst hg <;> rfl
theorem zero_of {P:Program} {t:Nat} {l:List Value} (h:(P.info? t).bind (·.zero)=some (.agg l.toArray)):∃ i z,P.info? t=some i∧i.zero=some z∧z.cells=l.toArray:=by
 cases hi:P.info? t with
 | none=>rw [hi] at h; cases h
 | some i =>
  rw [hi] at h
  exact ⟨i,_,rfl,h,rfl⟩
theorem zero_of1 {P:Program} {t:Nat} {k:IntKind} (h:(P.info? t).bind (·.zero)=some (.int k 0)):∃ i z,P.info? t=some i∧i.zero=some z∧z.cells=(zeros 1 k).toArray:=by
 cases hi:P.info? t with
 | none=>rw [hi] at h; cases h
 | some i =>
  rw [hi] at h
  exact ⟨i,_,rfl,h,rfl⟩
theorem fld_of {P:Program} {t f d e z:Nat} {fs:Array Field} (h1:P.underlying t=some (.struct fs)) (h2:(fs[f]?).map (fun x=>(x.offset,x.type))=some (d,e)) (h3:(P.info? e).map (·.size)=some z) (hz:z≠0) :
  ∃ fs fd i,P.underlying t=some (.struct fs)∧fs[f]?=some fd∧fd.offset=d∧P.info? fd.type=some i∧i.size≠0:=by
 cases hf:fs[f]? with
 | none=>rw [hf] at h2; cases h2
 | some fd =>
  rw [hf] at h2
  cases h2
  obtain ⟨i,hi,hs⟩:=info_size h3
  exact ⟨fs,fd,i,h1,hf,rfl,hi,by rw [hs]; exact hz⟩
theorem fill_cells {places:Nat→Option (Nat × Nat)}:∀ (ps:List (Nat × Value)) (l:List Value),(∀ i,i<l.length→places i=some (i,1))→(∀ p ∈ ps,p.1<l.length∧p.2.oneCell'=true) →
  Instr.fill places l.toArray ps=some (setParts l ps).toArray
 | [],l,_,_=>by rw [Instr.fill,setParts]
 | (i,v) :: ps,l,hp,h=>by
  obtain ⟨h1,h2⟩:=h (i,v) List.mem_cons_self
  have hc:v.cells=#[v]:=by
   revert h2
   generalize v=u
   intro h2
   cases u <;> first | rfl | (cases h2; done)
  rw [Instr.fill,hp i h1]
  simp only at h1
  have hsz:¬ (v.cells.size≠1 || i+v.cells.size > l.toArray.size)=true:=by rw [hc]; simp; omega
  simp only []
  rw [if_neg hsz,hc]
  have:=fill_cells ps (l.set i v) (fun j hj=>hp j (by simpa using hj)) (fun p hp'=>by rw [List.length_set]; exact h p (List.mem_cons_of_mem _ hp'))
  rw [setParts,← this]
  congr 1
  simp [Array.zipIdx]
theorem built_of {P:Program} {t:TypeId} {it:TypeInfo} {fs:Array Field} {l:List Value} (h1:P.info? t=some it) (h2:P.underlying t=some (.struct fs)) (h3:it.zero=some (.agg l.toArray))
  (h4:fs.toList.mapM (fun f=>(P.info? f.type).map fun i=>(f.offset,i.size))=some ((List.range l.length).map fun i=>(i,1))) (ps:List (Nat × Value)) (hp:∀ p ∈ ps,p.1<l.length∧p.2.oneCell'=true) :
  P.built t ps=some (setParts l ps).toArray:=by
 unfold Program.built
 simp only [h1,h2,h3,h4]
 refine fill_cells ps l (fun i hi=>?_) hp
 simp [hi]
theorem built_arr {P:Program} {t e n:TypeId} {it:TypeInfo} {l:List Value} (h1:P.info? t=some it) (h2:P.underlying t=some (.array n e)) (h3:it.zero=some (.agg l.toArray))
  (h4:(P.info? e).map (·.size)=some 1) (ps:List (Nat × Value)) (hp:∀ p ∈ ps,p.1<l.length∧p.2.oneCell'=true) :
  P.built t ps=some (setParts l ps).toArray:=by
 obtain ⟨ie,hi,hs⟩:=info_size h4
 unfold Program.built
 simp only [h1,h2,h3,hi,hs]
 exact fill_cells ps l (fun i _=>by simp) hp
theorem slc_of {P:Program} {t e z:Nat} (h1:P.underlying t=some (.slice e)) (h2:(P.info? e).map (·.size)=some z):∃ e i,P.underlying t=some (.slice e)∧P.info? e=some i∧i.size=z:=by
 obtain ⟨i,hi,hs⟩:=info_size h2
 exact ⟨e,i,h1,hi,hs⟩
theorem zero_info {P:Program} {t:Nat} {l:List Value} (h:(P.info? t).bind (·.zero)=some (.agg l.toArray)):∃ i,P.info? t=some i∧i.zero=some (.agg l.toArray):=by
 cases hi:P.info? t with
 | none=>rw [hi] at h; cases h
 | some i=>rw [hi] at h; exact ⟨i,rfl,h⟩
theorem made_replicate (z:Value) (n:Nat):madeCells #[z] n=(List.replicate n z).toArray:=by
 have h:∀ x:Nat,([z][x % 1]?.getD default)=z:=fun x=>by rw [Nat.mod_one]; rfl
 simp [madeCells,h,Array.map_const']
theorem Try.mixed:Try.prog.follows .mixedOrders=true:=by kernel_rfl
theorem tab_ok (asElem:Bool) (prims:List (Nat × Prim)) (hp:∀ f p,(f,p) ∈ prims→PrimOk Try.prog f p):(tabOf asElem prims).Ok Try.prog where
 mixed:=Try.mixed
 arr:=by
  intro t n z h
  have:=findT_mem h
  simp only [arrL,List.mem_cons,List.not_mem_nil,or_false,Prod.mk.injEq] at this
  rcases this with h | h | h | h | h | h | h | h | h | h <;> obtain ⟨rfl,rfl,rfl⟩:=h
  ·exact arr_of Try.underlying93 (by kernel_rfl)
  ·exact arr_of Try.underlying94 (by kernel_rfl)
  ·exact arr_of Try.underlying136 (by kernel_rfl)
  ·exact arr_of Try.underlying22 (by kernel_rfl)
  ·exact arr_of Try.underlying104 (by kernel_rfl)
  ·exact arr_of Try.underlying123 (by kernel_rfl)
  ·exact arr_of Try.underlying155 (by kernel_rfl)
  ·exact arr_of Try.underlying106 (by kernel_rfl)
  ·exact arr_of Try.underlying111 (by kernel_rfl)
  ·exact arr_of Try.underlying63 (by kernel_rfl)
 fld:=by
  intro t f d h
  have h':(match findT t fldL with | some l=>l[f]? | none=>none)=some d:=h
  split at h'
  ·rename_i l hl
   have:=findT_mem hl
   simp only [fldL,List.mem_cons,List.not_mem_nil,or_false,Prod.mk.injEq] at this
   rcases this with h | h | h | h | h <;> obtain ⟨rfl,rfl⟩:=h
   ·match f,h' with
    | 0,h'=>cases h'; exact fld_of (z:=4) Try.underlying96 rfl (by kernel_rfl) (by decide)
   ·match f,h' with
    | 0,h'=>cases h'; exact fld_of (z:=1) Try.underlying99 rfl (by kernel_rfl) (by decide)
    | 1,h'=>cases h'; exact fld_of (z:=1) Try.underlying99 rfl (by kernel_rfl) (by decide)
    | 2,h'=>cases h'; exact fld_of (z:=1) Try.underlying99 rfl (by kernel_rfl) (by decide)
   ·match f,h' with
    | 0,h'=>cases h'; exact fld_of (z:=1) Try.underlying25 rfl (by kernel_rfl) (by decide)
    | 1,h'=>cases h'; exact fld_of (z:=1) Try.underlying25 rfl (by kernel_rfl) (by decide)
    | 2,h'=>cases h'; exact fld_of (z:=1) Try.underlying25 rfl (by kernel_rfl) (by decide)
    | 3,h'=>cases h'; exact fld_of (z:=1) Try.underlying25 rfl (by kernel_rfl) (by decide)
   ·match f,h' with
    | 0,h'=>cases h'; exact fld_of (z:=1) Try.underlying35 rfl (by kernel_rfl) (by decide)
    | 1,h'=>cases h'; exact fld_of (z:=1) Try.underlying35 rfl (by kernel_rfl) (by decide)
    | 2,h'=>cases h'; exact fld_of (z:=1) Try.underlying35 rfl (by kernel_rfl) (by decide)
   ·match f,h' with
    | 0,h'=>cases h'; exact fld_of (z:=1) Try.underlying73 rfl (by kernel_rfl) (by decide)
    | 1,h'=>cases h'; exact fld_of (z:=1) Try.underlying73 rfl (by kernel_rfl) (by decide)
    | 2,h'=>cases h'; exact fld_of (z:=1) Try.underlying73 rfl (by kernel_rfl) (by decide)
  ·cases h'
 var:=by
  intro t g n h
  have:=findT_mem h
  simp only [varL,List.mem_cons,List.not_mem_nil,or_false,Prod.mk.injEq] at this
  rcases this with h | h | h | h | h | h | h | h | h | h | h | h | h | h | h | h | h | h <;> obtain ⟨rfl,rfl,rfl⟩:=h
  ·exact var_of Try.underlying92 rfl (by kernel_rfl)
  ·exact var_of Try.underlying5 rfl (by kernel_rfl)
  ·exact var_of Try.underlying91 rfl (by kernel_rfl)
  ·exact var_of Try.underlying64 rfl (by kernel_rfl)
  ·exact var_of Try.underlying3 rfl (by kernel_rfl)
  ·exact var_of Try.underlying2 rfl (by kernel_rfl)
  ·exact var_of Try.underlying4 rfl (by kernel_rfl)
  ·exact var_of Try.underlying27 rfl (by kernel_rfl)
  ·exact var_of Try.underlying33 rfl (by kernel_rfl)
  ·exact var_of Try.underlying23 rfl (by kernel_rfl)
  ·exact var_of Try.underlying66 rfl (by kernel_rfl)
  ·exact var_of Try.underlying94 rfl (by kernel_rfl)
  ·exact var_of Try.underlying93 rfl (by kernel_rfl)
  ·exact var_of Try.underlying25 rfl (by kernel_rfl)
  ·exact var_of Try.underlying35 rfl (by kernel_rfl)
  ·exact var_of Try.underlying73 rfl (by kernel_rfl)
  ·exact var_of Try.underlying63 rfl (by kernel_rfl)
  ·exact var_of Try.underlying104 rfl (by kernel_rfl)
 zero:=by
  intro t l h
  have:=findT_mem h
  simp only [zeroL,List.mem_cons,List.not_mem_nil,or_false,Prod.mk.injEq] at this
  rcases this with h | h | h | h | h | h | h | h | h | h | h | h | h <;> obtain ⟨rfl,rfl⟩:=h
  ·exact zero_of1 (by kernel_rfl)
  ·exact zero_of (by kernel_rfl)
  ·exact zero_of (by kernel_rfl)
  ·exact zero_of (by kernel_rfl)
  ·exact zero_of (by kernel_rfl)
  ·exact zero_of (by kernel_rfl)
  ·exact zero_of (by kernel_rfl)
  ·exact zero_of (by kernel_rfl)
  ·exact zero_of (by kernel_rfl)
  ·exact zero_of (by kernel_rfl)
  ·exact zero_of (by kernel_rfl)
  ·exact zero_of (by kernel_rfl)
  ·exact zero_of (by kernel_rfl)
 bld:=by
  intro t l h ps hp
  have:=findT_mem h
  simp only [bldL,List.mem_cons,List.not_mem_nil,or_false,Prod.mk.injEq] at this
  rcases this with h | h | h | h | h | h | h <;> obtain ⟨rfl,rfl⟩:=h
  ·obtain ⟨it,h1,h2⟩:=zero_info (P:=Try.prog) (t:=99) (l:=[.pointer none,.pointer none,.pointer none]) (by kernel_rfl)
   exact built_of h1 Try.underlying99 h2 (by kernel_rfl) ps hp
  ·obtain ⟨it,h1,h2⟩:=zero_info (P:=Try.prog) (t:=25) (l:=[.int .i64 0,.int .i64 0,.int .i64 0,.slice none 0 0]) (by kernel_rfl)
   exact built_of h1 Try.underlying25 h2 (by kernel_rfl) ps hp
  ·obtain ⟨it,h1,h2⟩:=zero_info (P:=Try.prog) (t:=35) (l:=[.bool false,.slice none 0 0,.slice none 0 0]) (by kernel_rfl)
   exact built_of h1 Try.underlying35 h2 (by kernel_rfl) ps hp
  ·obtain ⟨it,h1,h2⟩:=zero_info (P:=Try.prog) (t:=73) (l:=[.slice none 0 0,.slice none 0 0,.slice none 0 0]) (by kernel_rfl)
   exact built_of h1 Try.underlying73 h2 (by kernel_rfl) ps hp
  ·obtain ⟨it,h1,h2⟩:=zero_info (P:=Try.prog) (t:=63) (l:=[.int .i64 0,.int .i64 0]) (by kernel_rfl)
   exact built_arr h1 Try.underlying63 h2 (by kernel_rfl) ps hp
  ·obtain ⟨it,h1,h2⟩:=zero_info (P:=Try.prog) (t:=104) (l:=List.replicate 15 (.pointer none)) (by kernel_rfl)
   exact built_arr h1 Try.underlying104 h2 (by kernel_rfl) ps hp
  ·obtain ⟨it,h1,h2⟩:=zero_info (P:=Try.prog) (t:=122) (l:=[.string ⟨#[]⟩]) (by kernel_rfl)
   exact built_of h1 Try.underlying122 h2 (by kernel_rfl) ps hp
 slc:=by
  intro t z h
  have:=findT_mem h
  simp only [slcL,List.mem_cons,List.not_mem_nil,or_false,Prod.mk.injEq] at this
  rcases this with h | h | h | h | h <;> obtain ⟨rfl,rfl⟩:=h
  ·exact slc_of Try.underlying27 (by kernel_rfl)
  ·exact slc_of Try.underlying33 (by kernel_rfl)
  ·exact slc_of Try.underlying32 (by kernel_rfl)
  ·exact slc_of Try.underlying23 (by kernel_rfl)
  ·exact slc_of Try.underlying85 (by kernel_rfl)
 mks:=by
  intro t z h n w hn
  have:=findT_mem h
  simp only [mkL,List.mem_cons,List.not_mem_nil,or_false,Prod.mk.injEq] at this
  rcases this with h | h | h <;> obtain ⟨rfl,rfl⟩:=h
  ·refine ⟨5,?_⟩
   rw [run_make_row' 27 _ (.int .u8 0) 1 Try.underlying27 (by kernel_rfl) rfl .i64 .i64 n (by omega) (by omega) w,made_replicate]
  ·refine ⟨2,?_⟩
   rw [run_make_row' 33 _ (.int .i64 0) 8 Try.underlying33 (by kernel_rfl) rfl .i64 .i64 n (by omega) (by omega) w,made_replicate]
  ·refine ⟨2,?_⟩
   rw [run_make_row' 32 _ (.int .i64 0) 8 Try.underlying32 (by kernel_rfl) rfl .i64 .i64 n (by omega) (by omega) w,made_replicate]
 kind:=by
  intro t k h
  have:=findT_mem h
  simp only [kindL,List.mem_cons,List.not_mem_nil,or_false,Prod.mk.injEq] at this
  rcases this with h | h | h | h | h <;> obtain ⟨rfl,rfl⟩:=h
  ·exact Try.underlying92
  ·exact Try.underlying146
  ·exact Try.underlying5
  ·exact Try.underlying3
  ·exact Try.underlying2
 elem:=by
  intro t h
  have h':(asElem && t == 96)=true:=h
  simp only [Bool.and_eq_true,beq_iff_eq] at h'
  rw [h'.2]
  rfl
 prim:=fun f p h=>hp f p (findT_mem h)
 qext:=fun _ h=>by cases h
 lext:=⟨fun h=>(by cases h),fun _ h=>(by cases h)⟩
theorem meets_extern {P:Program} {f:FuncId} {args:Array Value} {w:World} {v:Value} {R:Value→World→Prop} (h:(callFunc f args).run P w=.ok (.value v) w) (hR:R v w):Meets P f args w R:=by
 intro o a next Q hn
 rw [h]
 exact hn v w hR
theorem call_add64 (x y c:Nat) (hc:c≤1) (w:World):(callFunc 120 #[.int .u64 x,.int .u64 y,.int .u64 c]).run Try.prog w =
  .ok (.value (.tuple #[.int .u64 (((x+y+c) % 2 ^ 64:Nat):Int),.int .u64 (((x+y+c) / 2 ^ 64:Nat):Int)])) w:=by
 rw [run_callFunc_extern Try.func120 (by kernel_rfl) (by kernel_rfl) (by kernel_rfl) (e:=add64Entry) (by kernel_rfl),run_add64 x y c (by omega) (by omega) (by omega) (by omega)]
 simp only [Result.andThen]
 congr 5 <;> omega
set_option maxRecDepth 100000 in
theorem meets_add64 (x y c:Nat) (hc:c≤1) (w:World):Meets Try.prog 120 #[.int .u64 (x:Int),.int .u64 (y:Int),.int .u64 (c:Int)] w fun v w' =>
  v=.tuple #[.int .u64 (((x+y+c) % 2 ^ 64:Nat):Int),.int .u64 (((x+y+c) / 2 ^ 64:Nat):Int)]∧Below w.heap.size w w' :=
 meets_extern (call_add64 x y c hc w) ⟨rfl,Below.refl _ _⟩
set_option maxRecDepth 100000 in
theorem prim_add64:PrimOk Try.prog 120 .add64:=by
 unfold PrimOk
 intro x y c w _ _ hc
 exact meets_add64 x y c hc w
def sub64Row:Array Value→Sem Value:=fun args=>do
 let (x, y, b) ← Extern.MathBitsCarry.three "Sub64" args
 pure (Extern.MathBitsCarry.pair ((x+Extern.MathBitsCarry.m64 - y - b) % Extern.MathBitsCarry.m64) (if x<y+b then 1 else 0))
theorem run_sub64Row {P:Program} (x y b:Nat) (hb:b≤1) (w:World) :
  (sub64Row #[.int .u64 x,.int .u64 y,.int .u64 b]).run P w =
   .ok (.tuple #[.int .u64 (((x+18446744073709551616 - y - b) % 18446744073709551616:Nat):Int),.int .u64 ((if x<y+b then 1 else 0:Nat):Int)]) w:=by
 have:b=0∨b=1:=by omega
 rcases this with rfl | rfl <;> rfl
theorem call_sub64 (x y c:Nat) (hc:c≤1) (w:World):(callFunc 121 #[.int .u64 x,.int .u64 y,.int .u64 c]).run Try.prog w =
  .ok (.value (.tuple #[.int .u64 (((x+2 ^ 64 - y - c) % 2 ^ 64:Nat):Int),.int .u64 (((if x<y+c then 1 else 0):Nat):Int)])) w:=by
 rw [run_callFunc_extern Try.func121 (by kernel_rfl) (by kernel_rfl) (by kernel_rfl) (e:=sub64Row) (by kernel_rfl),run_sub64Row x y c hc]
 rfl
set_option maxRecDepth 100000 in
theorem meets_sub64 (x y c:Nat) (hc:c≤1) (w:World):Meets Try.prog 121 #[.int .u64 (x:Int),.int .u64 (y:Int),.int .u64 (c:Int)] w fun v w' =>
  v=.tuple #[.int .u64 (((x+2 ^ 64 - y - c) % 2 ^ 64:Nat):Int),.int .u64 (((if x<y+c then 1 else 0):Nat):Int)]∧Below w.heap.size w w' :=
 meets_extern (call_sub64 x y c hc w) ⟨rfl,Below.refl _ _⟩
set_option maxRecDepth 100000 in
theorem prim_sub64:PrimOk Try.prog 121 .sub64:=by
 unfold PrimOk
 intro x y c w _ _ hc
 exact meets_sub64 x y c hc w
end P224
/- Runs of the executor told in brief; math/bits.Mul64 and the conditional move. -/
namespace P224
open Go Go.RowKit Go.Proofs
set_option maxRecDepth 100000
def brief (ts:List Nat) (r:Option (Out × St)):Option (Out × Nat × List Ex × List (Nat × Nat × A0) × List (Option AV)) :=
 match r with
 | some (o,st)=>some (o,st.nx,st.exs,st.out,ts.map st.tm.get)
 | none=>none
theorem brief_spec {ts:List Nat} {r:Option (Out × St)} {o:Out} {nx:Nat} {exs:List Ex} {out:List (Nat × Nat × A0)} {avs:List (Option AV)} (h:brief ts r=some (o,nx,exs,out,avs)) :
  ∃ st,r=some (o,st)∧st.nx=nx∧st.exs=exs∧st.out=out∧ts.map st.tm.get=avs:=by
 unfold brief at h
 split at h
 ·cases h
  exact ⟨_,rfl,rfl,rfl,rfl,rfl⟩
 ·cases h
def runF (T:Tab) (F:Fix) (fuel:Nat) (fn:Func) (st:St):Option (Out × St) :=
 match fn.body with
 | some c=>run T F fuel c st
 | none=>none
def pureFix (nt:Nat):Fix:={ nt:=nt,nold:=0,wr:=fun _=>false,sep:=fun _ _=>false,dec:=fun _=>none }
def regFix (nt n w:Nat):Fix:={ nt:=nt,nold:=n,wr:=fun r=>decide (r<w),sep:=fun _ _=>false,dec:=fun _=>none }
def st119:St:=startSt [.one (.num .u64 0),.one (.num .u64 1)] [] 2 0
def st122:St:=startSt [.one (.ptr 0 0),.one (.bit .u64 0),.one (.num .u64 1),.one (.num .u64 2)] [(0,[.any])] 3 1
def ex119:List Ex:=[
.mul 64 (.v 0) (.v 1),
.add 64 (.v 15) (.v 16),
.shr 32 (.v 13),
.add 64 (.v 14) (.v 11),
.mul 64 (.v 3) (.v 5),
.add 64 (.v 10) (.v 12),
.mul 64 (.v 2) (.v 5),
.shr 32 (.v 9),
.and (.v 9) (.c 4294967295),
.add 64 (.v 7) (.v 8),
.shr 32 (.v 6),
.mul 64 (.v 3) (.v 4),
.mul 64 (.v 2) (.v 4),
.shr 32 (.v 1),
.and (.v 1) (.c 4294967295),
.shr 32 (.v 0),
.and (.v 0) (.c 4294967295)]
theorem run119:brief [4,5] (runF (tabOf false []) (pureFix 51) 1000 Try.f119 st119)=some (.ret,19,ex119,[],[some (.one (.num .u64 17)),some (.one (.num .u64 18))]):=by kernel_rfl
theorem and_low (a:Nat):a &&& 4294967295=a % 4294967296:=Nat.and_two_pow_sub_one_eq_mod a 32
theorem holds119 {s:Nums} (h:Holds s 19 ex119) (hx:s 0<18446744073709551616) (hy:s 1<18446744073709551616) :
  s 17=s 0*s 1 / 18446744073709551616∧s 18=s 0*s 1 % 18446744073709551616:=by
 simp only [ex119,Holds,Ex.val,Wd.val,Nat.reduceSub,Nat.reducePow,and_low] at h
 obtain ⟨h18,h17,h16,h15,h14,h13,h12,h11,h10,h9,h8,h7,h6,h5,h4,h3,h2,_⟩:=h
 refine ⟨?_,h18⟩
 obtain ⟨bd,bt,bw,hhi⟩:=Lib.mul64_hi (s 0) (s 1) hx hy
 have ba:=Lib.half_mul_le (a:=s 0 / 4294967296) (b:=s 1 / 4294967296) (by omega) (by omega)
 have bb:=Lib.half_mul_le (a:=s 0 / 4294967296) (b:=s 1 % 4294967296) (by omega) (by omega)
 have bc:=Lib.half_mul_le (a:=s 0 % 4294967296) (b:=s 1 / 4294967296) (by omega) (by omega)
 rw [h2,h4,Nat.mod_eq_of_lt bd] at h6
 rw [h3,h4,Nat.mod_eq_of_lt (by omega)] at h7
 rw [h6] at h8
 rw [h7,h8,Nat.mod_eq_of_lt bt] at h9
 rw [h9] at h10 h11
 rw [h2,h5,Nat.mod_eq_of_lt (by omega)] at h12
 rw [h10,h12,Nat.mod_eq_of_lt bw] at h13
 rw [h3,h5,Nat.mod_eq_of_lt (by omega)] at h14
 rw [h14,h11,Nat.mod_eq_of_lt (by omega)] at h15
 rw [h13] at h16
 rw [h15,h16,Nat.mod_eq_of_lt (by omega)] at h17
 rw [h17]
 exact hhi
theorem calls_of_runF {T:Tab} {F:Fix} {fuel:Nat} {fn:Func} {st:St} {x:Out × St} (h:runF T F fuel fn st=some x):∃ c,fn.body=some c∧run T F fuel c st=some x:=by
 unfold runF at h
 split at h
 ·rename_i c hc; exact ⟨c,hc,h⟩
 ·cases h
theorem map_get {st:St}:∀ {ts:List Nat} {avs:List (Option AV)},ts.map st.tm.get=avs→∀ (j t:Nat) (av:AV),ts[j]?=some t→avs[j]?=some (some av)→st.tm.get t=some av:=by
 intro ts avs h j t av h1 h2
 rw [← h,List.getElem?_map,h1] at h2
 simpa using h2
theorem prim_mul64:PrimOk Try.prog 119 .mul64:=by
 unfold PrimOk
 intro x y w hx hy
 refine meets_of_calls Try.func119 (by kernel_rfl) (by kernel_rfl) ?_
 obtain ⟨st',hrun,hnx,hexs,hout,hts⟩:=brief_spec run119
 obtain ⟨c,hc,hrun⟩:=calls_of_runF hrun
 obtain ⟨s,hH,hs0⟩:=exists_nums (fun i=>if i=0 then x else y) (l:=ex119) (n:=19) (by decide) (by decide)
 have h0:s 0=x:=hs0 0 (by decide)
 have h1:s 1=y:=hs0 1 (by decide)
 have hstart:Rel (pureFix 51) s (fun _=>(0,0)) w st119 { tmps:=[Value.int .u64 (x:Int),.int .u64 (y:Int)].toArray ++ Array.replicate (Try.f119.ntmps - [Value.int .u64 (x:Int),.int .u64 (y:Int)].toArray.size) undef,defers:=[] } w:=by
  refine rel_start rfl Try.ntmps119 (by decide) (by decide) ?_ (fun r l h=>by cases h) (fun r l h=>by cases h) (fun r h=>absurd h (Nat.not_lt_zero r)) (fun r q h=>absurd h (Nat.not_lt_zero r)) (fun i b h=>by cases h)
  intro j z v hz hv
  match j,hz,hv with
  | 0,hz,hv=>cases hz; cases hv; exact ⟨by rw [h0],by rw [h0]; exact hx⟩
  | 1,hz,hv=>cases hz; cases hv; exact ⟨by rw [h1],by rw [h1]; exact hy⟩
 refine calls_run2 (T:=tabOf false []) (t:=4) (u:=5) (tab_ok _ _ (fun _ _ h=>by cases h)) Try.func119 hc (.inr rfl) Try.results119 hstart hrun (by rw [hnx,hexs]; exact hH) ?_
 intro β' a' w' _ hr
 have r4:=hr.tm 4 _ (map_get hts 0 4 _ rfl rfl)
 have r5:=hr.tm 5 _ (map_get hts 1 5 _ rfl rfl)
 obtain ⟨e17,e18⟩:=holds119 hH (by rw [h0]; exact hx) (by rw [h1]; exact hy)
 have hb:=hr.below
 rw [hout] at hb
 refine ⟨_,rfl,?_,hb⟩
 rw [r4.1,r5.1,e17,e18,h0,h1]
def ex122:List Ex:=[
.or (.v 4) (.v 6),
.and (.v 5) (.v 1),
.not 64 (.v 3),
.and (.v 3) (.v 2),
.mul 64 (.v 0) (.c 18446744073709551615)]
theorem run122:brief [] (runF (tabOf false []) (regFix 23 1 1) 1000 Try.f122 st122)=some (.normal,8,ex122,[(0,0,.num .u64 7)],[]):=by kernel_rfl
theorem holds122 {s:Nums} (h:Holds s 8 ex122) (hc:s 0≤1) (hx:s 1<2 ^ 64) (hy:s 2<2 ^ 64):s 7=if s 0=0 then s 1 else s 2:=by
 simp only [ex122,Holds,Ex.val,Wd.val,Nat.reduceSub] at h
 obtain ⟨h7,h6,h5,h4,h3,_⟩:=h
 have ones:∀ a:Nat,a<2 ^ 64→(2 ^ 64 - 1) &&& a=a:=fun a ha=>by
  rw [Nat.and_comm,Nat.and_two_pow_sub_one_eq_mod,Nat.mod_eq_of_lt ha]
 have:s 0=0∨s 0=1:=by omega
 rcases this with h0 | h0
 ·rw [h0,Nat.zero_mul,Nat.zero_mod] at h3
  rw [h3,Nat.zero_and] at h4
  rw [h3,Nat.xor_zero] at h5
  rw [h5,ones _ hx] at h6
  rw [h7,h4,h6,h0,Nat.zero_or,if_pos rfl]
 ·rw [h0] at h3
  have h3':s 3=2 ^ 64 - 1:=h3
  rw [h3',ones _ hy] at h4
  rw [h3',Nat.xor_self] at h5
  rw [h5,Nat.zero_and] at h6
  rw [h7,h4,h6,h0,Nat.or_zero,if_neg (by decide)]
theorem prim_cmov:PrimOk Try.prog 122 .cmov:=by
 unfold PrimOk
 intro b o c x y w hb0 hc hx hy hcell hfz
 refine meets_of_calls Try.func122 (by kernel_rfl) (by kernel_rfl) ?_
 obtain ⟨st',hrun,hnx,hexs,hout,hts⟩:=brief_spec run122
 obtain ⟨cd,hcd,hrun⟩:=calls_of_runF hrun
 obtain ⟨s,hH,hs0⟩:=exists_nums (fun i=>if i=0 then c else if i=1 then x else y) (l:=ex122) (n:=8) (by decide) (by decide)
 have h0:s 0=c:=hs0 0 (by decide)
 have h1:s 1=x:=hs0 1 (by decide)
 have h2:s 2=y:=hs0 2 (by decide)
 obtain ⟨cv,hcv⟩:=hcell
 have hstart:Rel (regFix 23 1 1) s (fun _=>(b,o)) w st122 { tmps:=[ptrTo b o,Value.int .u64 (c:Int),.int .u64 (x:Int),.int .u64 (y:Int)].toArray ++ Array.replicate (Try.f122.ntmps - [ptrTo b o,Value.int .u64 (c:Int),.int .u64 (x:Int),.int .u64 (y:Int)].toArray.size) undef,defers:=[] } w:=by
  refine rel_start rfl Try.ntmps122 (by decide) (by decide) ?_ ?_ ?_ (fun r _=>hb0) (fun r q _ _ h=>by cases h) (fun i b h=>by cases h)
  ·intro j z v hz hv
   match j,hz,hv with
   | 0,hz,hv=>cases hz; cases hv; exact ⟨rfl,Nat.one_pos⟩
   | 1,hz,hv=>cases hz; cases hv; exact ⟨by rw [h0],by rw [h0]; exact hc⟩
   | 2,hz,hv=>cases hz; cases hv; exact ⟨by rw [h1],by rw [h1]; exact hx⟩
   | 3,hz,hv=>cases hz; cases hv; exact ⟨by rw [h2],by rw [h2]; exact hy⟩
  ·intro r l hl
   have:=lookup_mem hl
   simp only [List.mem_cons,List.not_mem_nil,or_false,Prod.mk.injEq] at this
   obtain ⟨rfl,rfl⟩:=this
   refine ⟨Nat.one_pos,fun j z hz=>?_⟩
   match j,hz with
   | 0,hz=>exact ⟨cv,hcv,by cases hz; trivial⟩
  ·intro r l hl _ j hj
   have:=lookup_mem hl
   simp only [List.mem_cons,List.not_mem_nil,or_false,Prod.mk.injEq] at this
   obtain ⟨rfl,rfl⟩:=this
   match j,hj with
   | 0,_=>exact hfz
 refine calls_run (T:=tabOf false []) (res:=none) (tab_ok _ _ (fun _ _ h=>by cases h)) Try.func122 hcd ⟨.inl rfl,Try.results122⟩ hstart hrun (by rw [hnx,hexs]; exact hH) ?_
 intro β' a' w' hag hr
 have e7:=holds122 hH (by rw [h0]; exact hc) (by rw [h1]; exact hx) (by rw [h2]; exact hy)
 have hb:=hr.below
 rw [hout] at hb
 refine ⟨_,rfl,?_⟩
 have e:applyOut s β' w [(0,0,A0.num .u64 7)]=w.setCell ⟨b,o,none⟩ (.int .u64 (((if c=0 then x else y):Nat):Int)):=by
  show w.setCell (at_ β' 0 0) (.int .u64 (s 7:Int))=_
  rw [at_,hag 0 Nat.one_pos,e7,h0,h1,h2]
  rfl
 rw [e] at hb
 exact hb
def wordPrims:List (Nat × Prim):=[(119,.mul64),(120,.add64),(121,.sub64),(122,.cmov)]
theorem tabW_ok:(tabOf false wordPrims).Ok Try.prog:=tab_ok _ _ fun f p h=>by
 simp only [wordPrims,List.mem_cons,List.not_mem_nil,or_false,Prod.mk.injEq] at h
 rcases h with h | h | h | h <;> obtain ⟨rfl,rfl⟩:=h
 ·exact prim_mul64
 ·exact prim_add64
 ·exact prim_sub64
 ·exact prim_cmov
end P224
/- PRINTED BY A PROGRAM OF MY OWN (gen/mul.py): p224Mul and p224Square: what the executor lists of them, and that it is the product. -/
namespace P224
open Go
set_option maxRecDepth 100000
theorem Holds.at {s:Nums}:∀ {l:List Ex} {nx:Nat},Holds s nx l→∀ (j n:Nat) (e:Ex),l[j]?=some e→nx - 1 - j=n→s n=e.val s
 | [],_,_,j,_,_,he,_=>by simp at he
 | _ :: _,_,h,0,_,_,he,hn=>by cases he; subst hn; exact h.1
 | _ :: l,nx,h,j+1,n,e,he,hn=>by
  refine Holds.at (l:=l) h.2 j n e ?_ ?_
  ·simpa using he
  ·omega
theorem mont_fin {r U Y0 Y1 Y2 Y3 M:Nat} (hr:r=U∨r+26959946667150639794667015087019630673557916260026308143510066298881=U) (h:115792089237316195423570985008687907853269984665640564039457584007913129639936*U=Y0+18446744073709551616*Y1+340282366920938463463374607431768211456*Y2+6277101735386680763835789423207666416102355444464034512896*Y3+M*26959946667150639794667015087019630673557916260026308143510066298881):r*115792089237316195423570985008687907853269984665640564039457584007913129639936 % 26959946667150639794667015087019630673557916260026308143510066298881=(Y0+18446744073709551616*Y1+340282366920938463463374607431768211456*Y2+6277101735386680763835789423207666416102355444464034512896*Y3) % 26959946667150639794667015087019630673557916260026308143510066298881:=mont_end hr h
def ex107:List Ex:=[
.sel (.v 202) (.v 199) (.v 190),
.sel (.v 202) (.v 197) (.v 188),
.sel (.v 202) (.v 195) (.v 186),
.sel (.v 202) (.v 193) (.v 184),
.subb (.v 192) (.c 0) (.v 200),
.subs (.v 192) (.c 0) (.v 200),
.subb (.v 190) (.c 4294967295) (.v 198),
.subs (.v 190) (.c 4294967295) (.v 198),
.subb (.v 188) (.c 18446744073709551615) (.v 196),
.subs (.v 188) (.c 18446744073709551615) (.v 196),
.subb (.v 186) (.c 18446744069414584320) (.v 194),
.subs (.v 186) (.c 18446744069414584320) (.v 194),
.subb (.v 184) (.c 1) (.c 0),
.subs (.v 184) (.c 1) (.c 0),
.add 64 (.v 191) (.v 168),
.addc (.v 167) (.v 181) (.v 189),
.adds (.v 167) (.v 181) (.v 189),
.addc (.v 165) (.v 179) (.v 187),
.adds (.v 165) (.v 179) (.v 187),
.addc (.v 163) (.v 177) (.v 185),
.adds (.v 163) (.v 177) (.v 185),
.addc (.v 161) (.v 176) (.v 183),
.adds (.v 161) (.v 176) (.v 183),
.addc (.v 159) (.v 170) (.c 0),
.adds (.v 159) (.v 170) (.c 0),
.add 64 (.v 180) (.v 171),
.addc (.v 173) (.v 172) (.v 178),
.adds (.v 173) (.v 172) (.v 178),
.addc (.v 175) (.v 174) (.c 0),
.adds (.v 175) (.v 174) (.c 0),
.mull (.v 170) (.c 18446744069414584320),
.mulh (.v 170) (.c 18446744069414584320),
.mull (.v 170) (.c 18446744073709551615),
.mulh (.v 170) (.c 18446744073709551615),
.mull (.v 170) (.c 4294967295),
.mulh (.v 170) (.c 4294967295),
.mull (.v 159) (.c 18446744073709551615),
.mulh (.v 159) (.c 18446744073709551615),
.addc (.v 143) (.v 158) (.v 166),
.adds (.v 143) (.v 158) (.v 166),
.addc (.v 141) (.v 156) (.v 164),
.adds (.v 141) (.v 156) (.v 164),
.addc (.v 139) (.v 154) (.v 162),
.adds (.v 139) (.v 154) (.v 162),
.addc (.v 137) (.v 152) (.v 160),
.adds (.v 137) (.v 152) (.v 160),
.addc (.v 135) (.v 151) (.c 0),
.adds (.v 135) (.v 151) (.c 0),
.add 64 (.v 157) (.v 144),
.addc (.v 146) (.v 145) (.v 155),
.adds (.v 146) (.v 145) (.v 155),
.addc (.v 148) (.v 147) (.v 153),
.adds (.v 148) (.v 147) (.v 153),
.addc (.v 150) (.v 149) (.c 0),
.adds (.v 150) (.v 149) (.c 0),
.mull (.v 3) (.v 4),
.mulh (.v 3) (.v 4),
.mull (.v 3) (.v 5),
.mulh (.v 3) (.v 5),
.mull (.v 3) (.v 6),
.mulh (.v 3) (.v 6),
.mull (.v 3) (.v 7),
.mulh (.v 3) (.v 7),
.add 64 (.v 142) (.v 119),
.addc (.v 118) (.v 132) (.v 140),
.adds (.v 118) (.v 132) (.v 140),
.addc (.v 116) (.v 130) (.v 138),
.adds (.v 116) (.v 130) (.v 138),
.addc (.v 114) (.v 128) (.v 136),
.adds (.v 114) (.v 128) (.v 136),
.addc (.v 112) (.v 127) (.v 134),
.adds (.v 112) (.v 127) (.v 134),
.addc (.v 110) (.v 121) (.c 0),
.adds (.v 110) (.v 121) (.c 0),
.add 64 (.v 131) (.v 122),
.addc (.v 124) (.v 123) (.v 129),
.adds (.v 124) (.v 123) (.v 129),
.addc (.v 126) (.v 125) (.c 0),
.adds (.v 126) (.v 125) (.c 0),
.mull (.v 121) (.c 18446744069414584320),
.mulh (.v 121) (.c 18446744069414584320),
.mull (.v 121) (.c 18446744073709551615),
.mulh (.v 121) (.c 18446744073709551615),
.mull (.v 121) (.c 4294967295),
.mulh (.v 121) (.c 4294967295),
.mull (.v 110) (.c 18446744073709551615),
.mulh (.v 110) (.c 18446744073709551615),
.addc (.v 94) (.v 109) (.v 117),
.adds (.v 94) (.v 109) (.v 117),
.addc (.v 92) (.v 107) (.v 115),
.adds (.v 92) (.v 107) (.v 115),
.addc (.v 90) (.v 105) (.v 113),
.adds (.v 90) (.v 105) (.v 113),
.addc (.v 88) (.v 103) (.v 111),
.adds (.v 88) (.v 103) (.v 111),
.addc (.v 86) (.v 102) (.c 0),
.adds (.v 86) (.v 102) (.c 0),
.add 64 (.v 108) (.v 95),
.addc (.v 97) (.v 96) (.v 106),
.adds (.v 97) (.v 96) (.v 106),
.addc (.v 99) (.v 98) (.v 104),
.adds (.v 99) (.v 98) (.v 104),
.addc (.v 101) (.v 100) (.c 0),
.adds (.v 101) (.v 100) (.c 0),
.mull (.v 2) (.v 4),
.mulh (.v 2) (.v 4),
.mull (.v 2) (.v 5),
.mulh (.v 2) (.v 5),
.mull (.v 2) (.v 6),
.mulh (.v 2) (.v 6),
.mull (.v 2) (.v 7),
.mulh (.v 2) (.v 7),
.add 64 (.v 93) (.v 70),
.addc (.v 69) (.v 83) (.v 91),
.adds (.v 69) (.v 83) (.v 91),
.addc (.v 67) (.v 81) (.v 89),
.adds (.v 67) (.v 81) (.v 89),
.addc (.v 65) (.v 79) (.v 87),
.adds (.v 65) (.v 79) (.v 87),
.addc (.v 63) (.v 78) (.v 85),
.adds (.v 63) (.v 78) (.v 85),
.addc (.v 61) (.v 72) (.c 0),
.adds (.v 61) (.v 72) (.c 0),
.add 64 (.v 82) (.v 73),
.addc (.v 75) (.v 74) (.v 80),
.adds (.v 75) (.v 74) (.v 80),
.addc (.v 77) (.v 76) (.c 0),
.adds (.v 77) (.v 76) (.c 0),
.mull (.v 72) (.c 18446744069414584320),
.mulh (.v 72) (.c 18446744069414584320),
.mull (.v 72) (.c 18446744073709551615),
.mulh (.v 72) (.c 18446744073709551615),
.mull (.v 72) (.c 4294967295),
.mulh (.v 72) (.c 4294967295),
.mull (.v 61) (.c 18446744073709551615),
.mulh (.v 61) (.c 18446744073709551615),
.addc (.v 45) (.v 60) (.v 68),
.adds (.v 45) (.v 60) (.v 68),
.addc (.v 44) (.v 58) (.v 66),
.adds (.v 44) (.v 58) (.v 66),
.addc (.v 42) (.v 56) (.v 64),
.adds (.v 42) (.v 56) (.v 64),
.addc (.v 40) (.v 54) (.v 62),
.adds (.v 40) (.v 54) (.v 62),
.addc (.v 38) (.v 53) (.c 0),
.adds (.v 38) (.v 53) (.c 0),
.add 64 (.v 59) (.v 46),
.addc (.v 48) (.v 47) (.v 57),
.adds (.v 48) (.v 47) (.v 57),
.addc (.v 50) (.v 49) (.v 55),
.adds (.v 50) (.v 49) (.v 55),
.addc (.v 52) (.v 51) (.c 0),
.adds (.v 52) (.v 51) (.c 0),
.mull (.v 1) (.v 4),
.mulh (.v 1) (.v 4),
.mull (.v 1) (.v 5),
.mulh (.v 1) (.v 5),
.mull (.v 1) (.v 6),
.mulh (.v 1) (.v 6),
.mull (.v 1) (.v 7),
.mulh (.v 1) (.v 7),
.addc (.v 22) (.v 35) (.v 43),
.adds (.v 22) (.v 35) (.v 43),
.addc (.v 20) (.v 33) (.v 41),
.adds (.v 20) (.v 33) (.v 41),
.addc (.v 18) (.v 31) (.v 39),
.adds (.v 18) (.v 31) (.v 39),
.addc (.v 16) (.v 30) (.v 37),
.adds (.v 16) (.v 30) (.v 37),
.addc (.v 15) (.v 24) (.c 0),
.adds (.v 15) (.v 24) (.c 0),
.add 64 (.v 34) (.v 25),
.addc (.v 27) (.v 26) (.v 32),
.adds (.v 27) (.v 26) (.v 32),
.addc (.v 29) (.v 28) (.c 0),
.adds (.v 29) (.v 28) (.c 0),
.mull (.v 24) (.c 18446744069414584320),
.mulh (.v 24) (.c 18446744069414584320),
.mull (.v 24) (.c 18446744073709551615),
.mulh (.v 24) (.c 18446744073709551615),
.mull (.v 24) (.c 4294967295),
.mulh (.v 24) (.c 4294967295),
.mull (.v 15) (.c 18446744073709551615),
.mulh (.v 15) (.c 18446744073709551615),
.add 64 (.v 21) (.v 8),
.addc (.v 10) (.v 9) (.v 19),
.adds (.v 10) (.v 9) (.v 19),
.addc (.v 12) (.v 11) (.v 17),
.adds (.v 12) (.v 11) (.v 17),
.addc (.v 14) (.v 13) (.c 0),
.adds (.v 14) (.v 13) (.c 0),
.mull (.v 0) (.v 4),
.mulh (.v 0) (.v 4),
.mull (.v 0) (.v 5),
.mulh (.v 0) (.v 5),
.mull (.v 0) (.v 6),
.mulh (.v 0) (.v 6),
.mull (.v 0) (.v 7),
.mulh (.v 0) (.v 7)]
theorem holds107 {s:Nums} (h:Holds s 207 ex107) (wb0:s 0<18446744073709551616) (wb1:s 1<18446744073709551616) (wb2:s 2<18446744073709551616) (wb3:s 3<18446744073709551616) (wb4:s 4<18446744073709551616) (wb5:s 5<18446744073709551616) (wb6:s 6<18446744073709551616) (wb7:s 7<18446744073709551616) (hB:s 4+18446744073709551616*s 5+340282366920938463463374607431768211456*s 6+6277101735386680763835789423207666416102355444464034512896*s 7<26959946667150639794667015087019630673557916260026308143510066298881) :
  (s 203+18446744073709551616*s 204+340282366920938463463374607431768211456*s 205+6277101735386680763835789423207666416102355444464034512896*s 206)*115792089237316195423570985008687907853269984665640564039457584007913129639936 % 26959946667150639794667015087019630673557916260026308143510066298881=(s 0+18446744073709551616*s 1+340282366920938463463374607431768211456*s 2+6277101735386680763835789423207666416102355444464034512896*s 3)*(s 4+18446744073709551616*s 5+340282366920938463463374607431768211456*s 6+6277101735386680763835789423207666416102355444464034512896*s 7) % 26959946667150639794667015087019630673557916260026308143510066298881∧s 203+18446744073709551616*s 204+340282366920938463463374607431768211456*s 205+6277101735386680763835789423207666416102355444464034512896*s 206<26959946667150639794667015087019630673557916260026308143510066298881∧s 203<18446744073709551616∧s 204<18446744073709551616∧s 205<18446744073709551616∧s 206<18446744073709551616:=by
 have e8:s 8=s 0*s 7 / 18446744073709551616:=h.at 198 8 (.mulh (.v 0) (.v 7)) rfl rfl
 have e9:s 9=s 0*s 7 % 18446744073709551616:=h.at 197 9 (.mull (.v 0) (.v 7)) rfl rfl
 have e10:s 10=s 0*s 6 / 18446744073709551616:=h.at 196 10 (.mulh (.v 0) (.v 6)) rfl rfl
 have e11:s 11=s 0*s 6 % 18446744073709551616:=h.at 195 11 (.mull (.v 0) (.v 6)) rfl rfl
 have e12:s 12=s 0*s 5 / 18446744073709551616:=h.at 194 12 (.mulh (.v 0) (.v 5)) rfl rfl
 have e13:s 13=s 0*s 5 % 18446744073709551616:=h.at 193 13 (.mull (.v 0) (.v 5)) rfl rfl
 have e14:s 14=s 0*s 4 / 18446744073709551616:=h.at 192 14 (.mulh (.v 0) (.v 4)) rfl rfl
 have e15:s 15=s 0*s 4 % 18446744073709551616:=h.at 191 15 (.mull (.v 0) (.v 4)) rfl rfl
 have e16:s 16=(s 14+s 13+0) % 18446744073709551616:=h.at 190 16 (.adds (.v 14) (.v 13) (.c 0)) rfl rfl
 have e17:s 17=(s 14+s 13+0) / 18446744073709551616:=h.at 189 17 (.addc (.v 14) (.v 13) (.c 0)) rfl rfl
 have e18:s 18=(s 12+s 11+s 17) % 18446744073709551616:=h.at 188 18 (.adds (.v 12) (.v 11) (.v 17)) rfl rfl
 have e19:s 19=(s 12+s 11+s 17) / 18446744073709551616:=h.at 187 19 (.addc (.v 12) (.v 11) (.v 17)) rfl rfl
 have e20:s 20=(s 10+s 9+s 19) % 18446744073709551616:=h.at 186 20 (.adds (.v 10) (.v 9) (.v 19)) rfl rfl
 have e21:s 21=(s 10+s 9+s 19) / 18446744073709551616:=h.at 185 21 (.addc (.v 10) (.v 9) (.v 19)) rfl rfl
 have e22:s 22=(s 21+s 8) % 18446744073709551616:=h.at 184 22 (.add 64 (.v 21) (.v 8)) rfl rfl
 have e23:s 23=s 15*18446744073709551615 / 18446744073709551616:=h.at 183 23 (.mulh (.v 15) (.c 18446744073709551615)) rfl rfl
 have e24:s 24=s 15*18446744073709551615 % 18446744073709551616:=h.at 182 24 (.mull (.v 15) (.c 18446744073709551615)) rfl rfl
 have e25:s 25=s 24*4294967295 / 18446744073709551616:=h.at 181 25 (.mulh (.v 24) (.c 4294967295)) rfl rfl
 have e26:s 26=s 24*4294967295 % 18446744073709551616:=h.at 180 26 (.mull (.v 24) (.c 4294967295)) rfl rfl
 have e27:s 27=s 24*18446744073709551615 / 18446744073709551616:=h.at 179 27 (.mulh (.v 24) (.c 18446744073709551615)) rfl rfl
 have e28:s 28=s 24*18446744073709551615 % 18446744073709551616:=h.at 178 28 (.mull (.v 24) (.c 18446744073709551615)) rfl rfl
 have e29:s 29=s 24*18446744069414584320 / 18446744073709551616:=h.at 177 29 (.mulh (.v 24) (.c 18446744069414584320)) rfl rfl
 have e30:s 30=s 24*18446744069414584320 % 18446744073709551616:=h.at 176 30 (.mull (.v 24) (.c 18446744069414584320)) rfl rfl
 have e31:s 31=(s 29+s 28+0) % 18446744073709551616:=h.at 175 31 (.adds (.v 29) (.v 28) (.c 0)) rfl rfl
 have e32:s 32=(s 29+s 28+0) / 18446744073709551616:=h.at 174 32 (.addc (.v 29) (.v 28) (.c 0)) rfl rfl
 have e33:s 33=(s 27+s 26+s 32) % 18446744073709551616:=h.at 173 33 (.adds (.v 27) (.v 26) (.v 32)) rfl rfl
 have e34:s 34=(s 27+s 26+s 32) / 18446744073709551616:=h.at 172 34 (.addc (.v 27) (.v 26) (.v 32)) rfl rfl
 have e35:s 35=(s 34+s 25) % 18446744073709551616:=h.at 171 35 (.add 64 (.v 34) (.v 25)) rfl rfl
 have e36:s 36=(s 15+s 24+0) % 18446744073709551616:=h.at 170 36 (.adds (.v 15) (.v 24) (.c 0)) rfl rfl
 have e37:s 37=(s 15+s 24+0) / 18446744073709551616:=h.at 169 37 (.addc (.v 15) (.v 24) (.c 0)) rfl rfl
 have e38:s 38=(s 16+s 30+s 37) % 18446744073709551616:=h.at 168 38 (.adds (.v 16) (.v 30) (.v 37)) rfl rfl
 have e39:s 39=(s 16+s 30+s 37) / 18446744073709551616:=h.at 167 39 (.addc (.v 16) (.v 30) (.v 37)) rfl rfl
 have e40:s 40=(s 18+s 31+s 39) % 18446744073709551616:=h.at 166 40 (.adds (.v 18) (.v 31) (.v 39)) rfl rfl
 have e41:s 41=(s 18+s 31+s 39) / 18446744073709551616:=h.at 165 41 (.addc (.v 18) (.v 31) (.v 39)) rfl rfl
 have e42:s 42=(s 20+s 33+s 41) % 18446744073709551616:=h.at 164 42 (.adds (.v 20) (.v 33) (.v 41)) rfl rfl
 have e43:s 43=(s 20+s 33+s 41) / 18446744073709551616:=h.at 163 43 (.addc (.v 20) (.v 33) (.v 41)) rfl rfl
 have e44:s 44=(s 22+s 35+s 43) % 18446744073709551616:=h.at 162 44 (.adds (.v 22) (.v 35) (.v 43)) rfl rfl
 have e45:s 45=(s 22+s 35+s 43) / 18446744073709551616:=h.at 161 45 (.addc (.v 22) (.v 35) (.v 43)) rfl rfl
 have e46:s 46=s 1*s 7 / 18446744073709551616:=h.at 160 46 (.mulh (.v 1) (.v 7)) rfl rfl
 have e47:s 47=s 1*s 7 % 18446744073709551616:=h.at 159 47 (.mull (.v 1) (.v 7)) rfl rfl
 have e48:s 48=s 1*s 6 / 18446744073709551616:=h.at 158 48 (.mulh (.v 1) (.v 6)) rfl rfl
 have e49:s 49=s 1*s 6 % 18446744073709551616:=h.at 157 49 (.mull (.v 1) (.v 6)) rfl rfl
 have e50:s 50=s 1*s 5 / 18446744073709551616:=h.at 156 50 (.mulh (.v 1) (.v 5)) rfl rfl
 have e51:s 51=s 1*s 5 % 18446744073709551616:=h.at 155 51 (.mull (.v 1) (.v 5)) rfl rfl
 have e52:s 52=s 1*s 4 / 18446744073709551616:=h.at 154 52 (.mulh (.v 1) (.v 4)) rfl rfl
 have e53:s 53=s 1*s 4 % 18446744073709551616:=h.at 153 53 (.mull (.v 1) (.v 4)) rfl rfl
 have e54:s 54=(s 52+s 51+0) % 18446744073709551616:=h.at 152 54 (.adds (.v 52) (.v 51) (.c 0)) rfl rfl
 have e55:s 55=(s 52+s 51+0) / 18446744073709551616:=h.at 151 55 (.addc (.v 52) (.v 51) (.c 0)) rfl rfl
 have e56:s 56=(s 50+s 49+s 55) % 18446744073709551616:=h.at 150 56 (.adds (.v 50) (.v 49) (.v 55)) rfl rfl
 have e57:s 57=(s 50+s 49+s 55) / 18446744073709551616:=h.at 149 57 (.addc (.v 50) (.v 49) (.v 55)) rfl rfl
 have e58:s 58=(s 48+s 47+s 57) % 18446744073709551616:=h.at 148 58 (.adds (.v 48) (.v 47) (.v 57)) rfl rfl
 have e59:s 59=(s 48+s 47+s 57) / 18446744073709551616:=h.at 147 59 (.addc (.v 48) (.v 47) (.v 57)) rfl rfl
 have e60:s 60=(s 59+s 46) % 18446744073709551616:=h.at 146 60 (.add 64 (.v 59) (.v 46)) rfl rfl
 have e61:s 61=(s 38+s 53+0) % 18446744073709551616:=h.at 145 61 (.adds (.v 38) (.v 53) (.c 0)) rfl rfl
 have e62:s 62=(s 38+s 53+0) / 18446744073709551616:=h.at 144 62 (.addc (.v 38) (.v 53) (.c 0)) rfl rfl
 have e63:s 63=(s 40+s 54+s 62) % 18446744073709551616:=h.at 143 63 (.adds (.v 40) (.v 54) (.v 62)) rfl rfl
 have e64:s 64=(s 40+s 54+s 62) / 18446744073709551616:=h.at 142 64 (.addc (.v 40) (.v 54) (.v 62)) rfl rfl
 have e65:s 65=(s 42+s 56+s 64) % 18446744073709551616:=h.at 141 65 (.adds (.v 42) (.v 56) (.v 64)) rfl rfl
 have e66:s 66=(s 42+s 56+s 64) / 18446744073709551616:=h.at 140 66 (.addc (.v 42) (.v 56) (.v 64)) rfl rfl
 have e67:s 67=(s 44+s 58+s 66) % 18446744073709551616:=h.at 139 67 (.adds (.v 44) (.v 58) (.v 66)) rfl rfl
 have e68:s 68=(s 44+s 58+s 66) / 18446744073709551616:=h.at 138 68 (.addc (.v 44) (.v 58) (.v 66)) rfl rfl
 have e69:s 69=(s 45+s 60+s 68) % 18446744073709551616:=h.at 137 69 (.adds (.v 45) (.v 60) (.v 68)) rfl rfl
 have e70:s 70=(s 45+s 60+s 68) / 18446744073709551616:=h.at 136 70 (.addc (.v 45) (.v 60) (.v 68)) rfl rfl
 have e71:s 71=s 61*18446744073709551615 / 18446744073709551616:=h.at 135 71 (.mulh (.v 61) (.c 18446744073709551615)) rfl rfl
 have e72:s 72=s 61*18446744073709551615 % 18446744073709551616:=h.at 134 72 (.mull (.v 61) (.c 18446744073709551615)) rfl rfl
 have e73:s 73=s 72*4294967295 / 18446744073709551616:=h.at 133 73 (.mulh (.v 72) (.c 4294967295)) rfl rfl
 have e74:s 74=s 72*4294967295 % 18446744073709551616:=h.at 132 74 (.mull (.v 72) (.c 4294967295)) rfl rfl
 have e75:s 75=s 72*18446744073709551615 / 18446744073709551616:=h.at 131 75 (.mulh (.v 72) (.c 18446744073709551615)) rfl rfl
 have e76:s 76=s 72*18446744073709551615 % 18446744073709551616:=h.at 130 76 (.mull (.v 72) (.c 18446744073709551615)) rfl rfl
 have e77:s 77=s 72*18446744069414584320 / 18446744073709551616:=h.at 129 77 (.mulh (.v 72) (.c 18446744069414584320)) rfl rfl
 have e78:s 78=s 72*18446744069414584320 % 18446744073709551616:=h.at 128 78 (.mull (.v 72) (.c 18446744069414584320)) rfl rfl
 have e79:s 79=(s 77+s 76+0) % 18446744073709551616:=h.at 127 79 (.adds (.v 77) (.v 76) (.c 0)) rfl rfl
 have e80:s 80=(s 77+s 76+0) / 18446744073709551616:=h.at 126 80 (.addc (.v 77) (.v 76) (.c 0)) rfl rfl
 have e81:s 81=(s 75+s 74+s 80) % 18446744073709551616:=h.at 125 81 (.adds (.v 75) (.v 74) (.v 80)) rfl rfl
 have e82:s 82=(s 75+s 74+s 80) / 18446744073709551616:=h.at 124 82 (.addc (.v 75) (.v 74) (.v 80)) rfl rfl
 have e83:s 83=(s 82+s 73) % 18446744073709551616:=h.at 123 83 (.add 64 (.v 82) (.v 73)) rfl rfl
 have e84:s 84=(s 61+s 72+0) % 18446744073709551616:=h.at 122 84 (.adds (.v 61) (.v 72) (.c 0)) rfl rfl
 have e85:s 85=(s 61+s 72+0) / 18446744073709551616:=h.at 121 85 (.addc (.v 61) (.v 72) (.c 0)) rfl rfl
 have e86:s 86=(s 63+s 78+s 85) % 18446744073709551616:=h.at 120 86 (.adds (.v 63) (.v 78) (.v 85)) rfl rfl
 have e87:s 87=(s 63+s 78+s 85) / 18446744073709551616:=h.at 119 87 (.addc (.v 63) (.v 78) (.v 85)) rfl rfl
 have e88:s 88=(s 65+s 79+s 87) % 18446744073709551616:=h.at 118 88 (.adds (.v 65) (.v 79) (.v 87)) rfl rfl
 have e89:s 89=(s 65+s 79+s 87) / 18446744073709551616:=h.at 117 89 (.addc (.v 65) (.v 79) (.v 87)) rfl rfl
 have e90:s 90=(s 67+s 81+s 89) % 18446744073709551616:=h.at 116 90 (.adds (.v 67) (.v 81) (.v 89)) rfl rfl
 have e91:s 91=(s 67+s 81+s 89) / 18446744073709551616:=h.at 115 91 (.addc (.v 67) (.v 81) (.v 89)) rfl rfl
 have e92:s 92=(s 69+s 83+s 91) % 18446744073709551616:=h.at 114 92 (.adds (.v 69) (.v 83) (.v 91)) rfl rfl
 have e93:s 93=(s 69+s 83+s 91) / 18446744073709551616:=h.at 113 93 (.addc (.v 69) (.v 83) (.v 91)) rfl rfl
 have e94:s 94=(s 93+s 70) % 18446744073709551616:=h.at 112 94 (.add 64 (.v 93) (.v 70)) rfl rfl
 have e95:s 95=s 2*s 7 / 18446744073709551616:=h.at 111 95 (.mulh (.v 2) (.v 7)) rfl rfl
 have e96:s 96=s 2*s 7 % 18446744073709551616:=h.at 110 96 (.mull (.v 2) (.v 7)) rfl rfl
 have e97:s 97=s 2*s 6 / 18446744073709551616:=h.at 109 97 (.mulh (.v 2) (.v 6)) rfl rfl
 have e98:s 98=s 2*s 6 % 18446744073709551616:=h.at 108 98 (.mull (.v 2) (.v 6)) rfl rfl
 have e99:s 99=s 2*s 5 / 18446744073709551616:=h.at 107 99 (.mulh (.v 2) (.v 5)) rfl rfl
 have e100:s 100=s 2*s 5 % 18446744073709551616:=h.at 106 100 (.mull (.v 2) (.v 5)) rfl rfl
 have e101:s 101=s 2*s 4 / 18446744073709551616:=h.at 105 101 (.mulh (.v 2) (.v 4)) rfl rfl
 have e102:s 102=s 2*s 4 % 18446744073709551616:=h.at 104 102 (.mull (.v 2) (.v 4)) rfl rfl
 have e103:s 103=(s 101+s 100+0) % 18446744073709551616:=h.at 103 103 (.adds (.v 101) (.v 100) (.c 0)) rfl rfl
 have e104:s 104=(s 101+s 100+0) / 18446744073709551616:=h.at 102 104 (.addc (.v 101) (.v 100) (.c 0)) rfl rfl
 have e105:s 105=(s 99+s 98+s 104) % 18446744073709551616:=h.at 101 105 (.adds (.v 99) (.v 98) (.v 104)) rfl rfl
 have e106:s 106=(s 99+s 98+s 104) / 18446744073709551616:=h.at 100 106 (.addc (.v 99) (.v 98) (.v 104)) rfl rfl
 have e107:s 107=(s 97+s 96+s 106) % 18446744073709551616:=h.at 99 107 (.adds (.v 97) (.v 96) (.v 106)) rfl rfl
 have e108:s 108=(s 97+s 96+s 106) / 18446744073709551616:=h.at 98 108 (.addc (.v 97) (.v 96) (.v 106)) rfl rfl
 have e109:s 109=(s 108+s 95) % 18446744073709551616:=h.at 97 109 (.add 64 (.v 108) (.v 95)) rfl rfl
 have e110:s 110=(s 86+s 102+0) % 18446744073709551616:=h.at 96 110 (.adds (.v 86) (.v 102) (.c 0)) rfl rfl
 have e111:s 111=(s 86+s 102+0) / 18446744073709551616:=h.at 95 111 (.addc (.v 86) (.v 102) (.c 0)) rfl rfl
 have e112:s 112=(s 88+s 103+s 111) % 18446744073709551616:=h.at 94 112 (.adds (.v 88) (.v 103) (.v 111)) rfl rfl
 have e113:s 113=(s 88+s 103+s 111) / 18446744073709551616:=h.at 93 113 (.addc (.v 88) (.v 103) (.v 111)) rfl rfl
 have e114:s 114=(s 90+s 105+s 113) % 18446744073709551616:=h.at 92 114 (.adds (.v 90) (.v 105) (.v 113)) rfl rfl
 have e115:s 115=(s 90+s 105+s 113) / 18446744073709551616:=h.at 91 115 (.addc (.v 90) (.v 105) (.v 113)) rfl rfl
 have e116:s 116=(s 92+s 107+s 115) % 18446744073709551616:=h.at 90 116 (.adds (.v 92) (.v 107) (.v 115)) rfl rfl
 have e117:s 117=(s 92+s 107+s 115) / 18446744073709551616:=h.at 89 117 (.addc (.v 92) (.v 107) (.v 115)) rfl rfl
 have e118:s 118=(s 94+s 109+s 117) % 18446744073709551616:=h.at 88 118 (.adds (.v 94) (.v 109) (.v 117)) rfl rfl
 have e119:s 119=(s 94+s 109+s 117) / 18446744073709551616:=h.at 87 119 (.addc (.v 94) (.v 109) (.v 117)) rfl rfl
 have e120:s 120=s 110*18446744073709551615 / 18446744073709551616:=h.at 86 120 (.mulh (.v 110) (.c 18446744073709551615)) rfl rfl
 have e121:s 121=s 110*18446744073709551615 % 18446744073709551616:=h.at 85 121 (.mull (.v 110) (.c 18446744073709551615)) rfl rfl
 have e122:s 122=s 121*4294967295 / 18446744073709551616:=h.at 84 122 (.mulh (.v 121) (.c 4294967295)) rfl rfl
 have e123:s 123=s 121*4294967295 % 18446744073709551616:=h.at 83 123 (.mull (.v 121) (.c 4294967295)) rfl rfl
 have e124:s 124=s 121*18446744073709551615 / 18446744073709551616:=h.at 82 124 (.mulh (.v 121) (.c 18446744073709551615)) rfl rfl
 have e125:s 125=s 121*18446744073709551615 % 18446744073709551616:=h.at 81 125 (.mull (.v 121) (.c 18446744073709551615)) rfl rfl
 have e126:s 126=s 121*18446744069414584320 / 18446744073709551616:=h.at 80 126 (.mulh (.v 121) (.c 18446744069414584320)) rfl rfl
 have e127:s 127=s 121*18446744069414584320 % 18446744073709551616:=h.at 79 127 (.mull (.v 121) (.c 18446744069414584320)) rfl rfl
 have e128:s 128=(s 126+s 125+0) % 18446744073709551616:=h.at 78 128 (.adds (.v 126) (.v 125) (.c 0)) rfl rfl
 have e129:s 129=(s 126+s 125+0) / 18446744073709551616:=h.at 77 129 (.addc (.v 126) (.v 125) (.c 0)) rfl rfl
 have e130:s 130=(s 124+s 123+s 129) % 18446744073709551616:=h.at 76 130 (.adds (.v 124) (.v 123) (.v 129)) rfl rfl
 have e131:s 131=(s 124+s 123+s 129) / 18446744073709551616:=h.at 75 131 (.addc (.v 124) (.v 123) (.v 129)) rfl rfl
 have e132:s 132=(s 131+s 122) % 18446744073709551616:=h.at 74 132 (.add 64 (.v 131) (.v 122)) rfl rfl
 have e133:s 133=(s 110+s 121+0) % 18446744073709551616:=h.at 73 133 (.adds (.v 110) (.v 121) (.c 0)) rfl rfl
 have e134:s 134=(s 110+s 121+0) / 18446744073709551616:=h.at 72 134 (.addc (.v 110) (.v 121) (.c 0)) rfl rfl
 have e135:s 135=(s 112+s 127+s 134) % 18446744073709551616:=h.at 71 135 (.adds (.v 112) (.v 127) (.v 134)) rfl rfl
 have e136:s 136=(s 112+s 127+s 134) / 18446744073709551616:=h.at 70 136 (.addc (.v 112) (.v 127) (.v 134)) rfl rfl
 have e137:s 137=(s 114+s 128+s 136) % 18446744073709551616:=h.at 69 137 (.adds (.v 114) (.v 128) (.v 136)) rfl rfl
 have e138:s 138=(s 114+s 128+s 136) / 18446744073709551616:=h.at 68 138 (.addc (.v 114) (.v 128) (.v 136)) rfl rfl
 have e139:s 139=(s 116+s 130+s 138) % 18446744073709551616:=h.at 67 139 (.adds (.v 116) (.v 130) (.v 138)) rfl rfl
 have e140:s 140=(s 116+s 130+s 138) / 18446744073709551616:=h.at 66 140 (.addc (.v 116) (.v 130) (.v 138)) rfl rfl
 have e141:s 141=(s 118+s 132+s 140) % 18446744073709551616:=h.at 65 141 (.adds (.v 118) (.v 132) (.v 140)) rfl rfl
 have e142:s 142=(s 118+s 132+s 140) / 18446744073709551616:=h.at 64 142 (.addc (.v 118) (.v 132) (.v 140)) rfl rfl
 have e143:s 143=(s 142+s 119) % 18446744073709551616:=h.at 63 143 (.add 64 (.v 142) (.v 119)) rfl rfl
 have e144:s 144=s 3*s 7 / 18446744073709551616:=h.at 62 144 (.mulh (.v 3) (.v 7)) rfl rfl
 have e145:s 145=s 3*s 7 % 18446744073709551616:=h.at 61 145 (.mull (.v 3) (.v 7)) rfl rfl
 have e146:s 146=s 3*s 6 / 18446744073709551616:=h.at 60 146 (.mulh (.v 3) (.v 6)) rfl rfl
 have e147:s 147=s 3*s 6 % 18446744073709551616:=h.at 59 147 (.mull (.v 3) (.v 6)) rfl rfl
 have e148:s 148=s 3*s 5 / 18446744073709551616:=h.at 58 148 (.mulh (.v 3) (.v 5)) rfl rfl
 have e149:s 149=s 3*s 5 % 18446744073709551616:=h.at 57 149 (.mull (.v 3) (.v 5)) rfl rfl
 have e150:s 150=s 3*s 4 / 18446744073709551616:=h.at 56 150 (.mulh (.v 3) (.v 4)) rfl rfl
 have e151:s 151=s 3*s 4 % 18446744073709551616:=h.at 55 151 (.mull (.v 3) (.v 4)) rfl rfl
 have e152:s 152=(s 150+s 149+0) % 18446744073709551616:=h.at 54 152 (.adds (.v 150) (.v 149) (.c 0)) rfl rfl
 have e153:s 153=(s 150+s 149+0) / 18446744073709551616:=h.at 53 153 (.addc (.v 150) (.v 149) (.c 0)) rfl rfl
 have e154:s 154=(s 148+s 147+s 153) % 18446744073709551616:=h.at 52 154 (.adds (.v 148) (.v 147) (.v 153)) rfl rfl
 have e155:s 155=(s 148+s 147+s 153) / 18446744073709551616:=h.at 51 155 (.addc (.v 148) (.v 147) (.v 153)) rfl rfl
 have e156:s 156=(s 146+s 145+s 155) % 18446744073709551616:=h.at 50 156 (.adds (.v 146) (.v 145) (.v 155)) rfl rfl
 have e157:s 157=(s 146+s 145+s 155) / 18446744073709551616:=h.at 49 157 (.addc (.v 146) (.v 145) (.v 155)) rfl rfl
 have e158:s 158=(s 157+s 144) % 18446744073709551616:=h.at 48 158 (.add 64 (.v 157) (.v 144)) rfl rfl
 have e159:s 159=(s 135+s 151+0) % 18446744073709551616:=h.at 47 159 (.adds (.v 135) (.v 151) (.c 0)) rfl rfl
 have e160:s 160=(s 135+s 151+0) / 18446744073709551616:=h.at 46 160 (.addc (.v 135) (.v 151) (.c 0)) rfl rfl
 have e161:s 161=(s 137+s 152+s 160) % 18446744073709551616:=h.at 45 161 (.adds (.v 137) (.v 152) (.v 160)) rfl rfl
 have e162:s 162=(s 137+s 152+s 160) / 18446744073709551616:=h.at 44 162 (.addc (.v 137) (.v 152) (.v 160)) rfl rfl
 have e163:s 163=(s 139+s 154+s 162) % 18446744073709551616:=h.at 43 163 (.adds (.v 139) (.v 154) (.v 162)) rfl rfl
 have e164:s 164=(s 139+s 154+s 162) / 18446744073709551616:=h.at 42 164 (.addc (.v 139) (.v 154) (.v 162)) rfl rfl
 have e165:s 165=(s 141+s 156+s 164) % 18446744073709551616:=h.at 41 165 (.adds (.v 141) (.v 156) (.v 164)) rfl rfl
 have e166:s 166=(s 141+s 156+s 164) / 18446744073709551616:=h.at 40 166 (.addc (.v 141) (.v 156) (.v 164)) rfl rfl
 have e167:s 167=(s 143+s 158+s 166) % 18446744073709551616:=h.at 39 167 (.adds (.v 143) (.v 158) (.v 166)) rfl rfl
 have e168:s 168=(s 143+s 158+s 166) / 18446744073709551616:=h.at 38 168 (.addc (.v 143) (.v 158) (.v 166)) rfl rfl
 have e169:s 169=s 159*18446744073709551615 / 18446744073709551616:=h.at 37 169 (.mulh (.v 159) (.c 18446744073709551615)) rfl rfl
 have e170:s 170=s 159*18446744073709551615 % 18446744073709551616:=h.at 36 170 (.mull (.v 159) (.c 18446744073709551615)) rfl rfl
 have e171:s 171=s 170*4294967295 / 18446744073709551616:=h.at 35 171 (.mulh (.v 170) (.c 4294967295)) rfl rfl
 have e172:s 172=s 170*4294967295 % 18446744073709551616:=h.at 34 172 (.mull (.v 170) (.c 4294967295)) rfl rfl
 have e173:s 173=s 170*18446744073709551615 / 18446744073709551616:=h.at 33 173 (.mulh (.v 170) (.c 18446744073709551615)) rfl rfl
 have e174:s 174=s 170*18446744073709551615 % 18446744073709551616:=h.at 32 174 (.mull (.v 170) (.c 18446744073709551615)) rfl rfl
 have e175:s 175=s 170*18446744069414584320 / 18446744073709551616:=h.at 31 175 (.mulh (.v 170) (.c 18446744069414584320)) rfl rfl
 have e176:s 176=s 170*18446744069414584320 % 18446744073709551616:=h.at 30 176 (.mull (.v 170) (.c 18446744069414584320)) rfl rfl
 have e177:s 177=(s 175+s 174+0) % 18446744073709551616:=h.at 29 177 (.adds (.v 175) (.v 174) (.c 0)) rfl rfl
 have e178:s 178=(s 175+s 174+0) / 18446744073709551616:=h.at 28 178 (.addc (.v 175) (.v 174) (.c 0)) rfl rfl
 have e179:s 179=(s 173+s 172+s 178) % 18446744073709551616:=h.at 27 179 (.adds (.v 173) (.v 172) (.v 178)) rfl rfl
 have e180:s 180=(s 173+s 172+s 178) / 18446744073709551616:=h.at 26 180 (.addc (.v 173) (.v 172) (.v 178)) rfl rfl
 have e181:s 181=(s 180+s 171) % 18446744073709551616:=h.at 25 181 (.add 64 (.v 180) (.v 171)) rfl rfl
 have e182:s 182=(s 159+s 170+0) % 18446744073709551616:=h.at 24 182 (.adds (.v 159) (.v 170) (.c 0)) rfl rfl
 have e183:s 183=(s 159+s 170+0) / 18446744073709551616:=h.at 23 183 (.addc (.v 159) (.v 170) (.c 0)) rfl rfl
 have e184:s 184=(s 161+s 176+s 183) % 18446744073709551616:=h.at 22 184 (.adds (.v 161) (.v 176) (.v 183)) rfl rfl
 have e185:s 185=(s 161+s 176+s 183) / 18446744073709551616:=h.at 21 185 (.addc (.v 161) (.v 176) (.v 183)) rfl rfl
 have e186:s 186=(s 163+s 177+s 185) % 18446744073709551616:=h.at 20 186 (.adds (.v 163) (.v 177) (.v 185)) rfl rfl
 have e187:s 187=(s 163+s 177+s 185) / 18446744073709551616:=h.at 19 187 (.addc (.v 163) (.v 177) (.v 185)) rfl rfl
 have e188:s 188=(s 165+s 179+s 187) % 18446744073709551616:=h.at 18 188 (.adds (.v 165) (.v 179) (.v 187)) rfl rfl
 have e189:s 189=(s 165+s 179+s 187) / 18446744073709551616:=h.at 17 189 (.addc (.v 165) (.v 179) (.v 187)) rfl rfl
 have e190:s 190=(s 167+s 181+s 189) % 18446744073709551616:=h.at 16 190 (.adds (.v 167) (.v 181) (.v 189)) rfl rfl
 have e191:s 191=(s 167+s 181+s 189) / 18446744073709551616:=h.at 15 191 (.addc (.v 167) (.v 181) (.v 189)) rfl rfl
 have e192:s 192=(s 191+s 168) % 18446744073709551616:=h.at 14 192 (.add 64 (.v 191) (.v 168)) rfl rfl
 have e193:s 193=(s 184+18446744073709551616 - 1 - 0) % 18446744073709551616:=h.at 13 193 (.subs (.v 184) (.c 1) (.c 0)) rfl rfl
 have e194:s 194=if s 184<1+0 then 1 else 0:=h.at 12 194 (.subb (.v 184) (.c 1) (.c 0)) rfl rfl
 have e195:s 195=(s 186+18446744073709551616 - 18446744069414584320 - s 194) % 18446744073709551616:=h.at 11 195 (.subs (.v 186) (.c 18446744069414584320) (.v 194)) rfl rfl
 have e196:s 196=if s 186<18446744069414584320+s 194 then 1 else 0:=h.at 10 196 (.subb (.v 186) (.c 18446744069414584320) (.v 194)) rfl rfl
 have e197:s 197=(s 188+18446744073709551616 - 18446744073709551615 - s 196) % 18446744073709551616:=h.at 9 197 (.subs (.v 188) (.c 18446744073709551615) (.v 196)) rfl rfl
 have e198:s 198=if s 188<18446744073709551615+s 196 then 1 else 0:=h.at 8 198 (.subb (.v 188) (.c 18446744073709551615) (.v 196)) rfl rfl
 have e199:s 199=(s 190+18446744073709551616 - 4294967295 - s 198) % 18446744073709551616:=h.at 7 199 (.subs (.v 190) (.c 4294967295) (.v 198)) rfl rfl
 have e200:s 200=if s 190<4294967295+s 198 then 1 else 0:=h.at 6 200 (.subb (.v 190) (.c 4294967295) (.v 198)) rfl rfl
 have e201:s 201=(s 192+18446744073709551616 - 0 - s 200) % 18446744073709551616:=h.at 5 201 (.subs (.v 192) (.c 0) (.v 200)) rfl rfl
 have e202:s 202=if s 192<0+s 200 then 1 else 0:=h.at 4 202 (.subb (.v 192) (.c 0) (.v 200)) rfl rfl
 have e203:s 203=if s 202=0 then s 193 else s 184:=h.at 3 203 (.sel (.v 202) (.v 193) (.v 184)) rfl rfl
 have e204:s 204=if s 202=0 then s 195 else s 186:=h.at 2 204 (.sel (.v 202) (.v 195) (.v 186)) rfl rfl
 have e205:s 205=if s 202=0 then s 197 else s 188:=h.at 1 205 (.sel (.v 202) (.v 197) (.v 188)) rfl rfl
 have e206:s 206=if s 202=0 then s 199 else s 190:=h.at 0 206 (.sel (.v 202) (.v 199) (.v 190)) rfl rfl
 clear h
 obtain ⟨em0,l0,l1,l2,l3,l4⟩:=row_mul wb0 wb4 wb5 wb6 wb7 e8 e9 e10 e11 e12 e13 e14 e15 e16 e17 e18 e19 e20 e21 e22
 obtain ⟨er0,hm0,u1,u2,u3,u4,g4⟩:=row_red e23 e24 e25 e26 e27 e28 e29 e30 e31 e32 e33 e34 e35 e36 e37 e38 e39 e40 e41 e42 e43 e44 e45 l0 l1 l2 l3 l4
 rw [em0] at er0
 obtain ⟨em1,k0,k1,k2,k3,k4⟩:=row_mul wb1 wb4 wb5 wb6 wb7 e46 e47 e48 e49 e50 e51 e52 e53 e54 e55 e56 e57 e58 e59 e60
 obtain ⟨ea1,v0,v1,v2,v3,v4,d4⟩:=row_acc e61 e62 e63 e64 e65 e66 e67 e68 e69 e70 u1 u2 u3 u4 (Nat.lt_of_le_of_lt g4 (by decide)) k0 k1 k2 k3 k4
 obtain ⟨er1,hm1,w1,w2,w3,w4,g5⟩:=row_red e71 e72 e73 e74 e75 e76 e77 e78 e79 e80 e81 e82 e83 e84 e85 e86 e87 e88 e89 e90 e91 e92 e93 v0 v1 v2 v3 v4
 obtain ⟨ec1,b5⟩:=carry_two e94 g5 d4
 have ej1:=row_join er1 ea1 em1 ec1
 clear u1 u2 u3 u4 k0 k1 k2 k3 k4 v0 v1 v2 v3 v4 g5 d4 er1 ea1 em1 ec1
 have u1:=w1
 have u2:=w2
 have u3:=w3
 have u4:=w4
 clear w1 w2 w3 w4
 obtain ⟨em2,k0,k1,k2,k3,k4⟩:=row_mul wb2 wb4 wb5 wb6 wb7 e95 e96 e97 e98 e99 e100 e101 e102 e103 e104 e105 e106 e107 e108 e109
 obtain ⟨ea2,v0,v1,v2,v3,v4,d4⟩:=row_acc e110 e111 e112 e113 e114 e115 e116 e117 e118 e119 u1 u2 u3 u4 b5 k0 k1 k2 k3 k4
 obtain ⟨er2,hm2,w1,w2,w3,w4,g5⟩:=row_red e120 e121 e122 e123 e124 e125 e126 e127 e128 e129 e130 e131 e132 e133 e134 e135 e136 e137 e138 e139 e140 e141 e142 v0 v1 v2 v3 v4
 obtain ⟨ec2,b5⟩:=carry_two e143 g5 d4
 have ej2:=row_join er2 ea2 em2 ec2
 clear u1 u2 u3 u4 k0 k1 k2 k3 k4 v0 v1 v2 v3 v4 g5 d4 er2 ea2 em2 ec2
 have u1:=w1
 have u2:=w2
 have u3:=w3
 have u4:=w4
 clear w1 w2 w3 w4
 obtain ⟨em3,k0,k1,k2,k3,k4⟩:=row_mul wb3 wb4 wb5 wb6 wb7 e144 e145 e146 e147 e148 e149 e150 e151 e152 e153 e154 e155 e156 e157 e158
 obtain ⟨ea3,v0,v1,v2,v3,v4,d4⟩:=row_acc e159 e160 e161 e162 e163 e164 e165 e166 e167 e168 u1 u2 u3 u4 b5 k0 k1 k2 k3 k4
 obtain ⟨er3,hm3,w1,w2,w3,w4,g5⟩:=row_red e169 e170 e171 e172 e173 e174 e175 e176 e177 e178 e179 e180 e181 e182 e183 e184 e185 e186 e187 e188 e189 e190 e191 v0 v1 v2 v3 v4
 obtain ⟨ec3,b5⟩:=carry_two e192 g5 d4
 have ej3:=row_join er3 ea3 em3 ec3
 clear u1 u2 u3 u4 k0 k1 k2 k3 k4 v0 v1 v2 v3 v4 g5 d4 er3 ea3 em3 ec3
 have u1:=w1
 have u2:=w2
 have u3:=w3
 have u4:=w4
 clear w1 w2 w3 w4
 obtain ⟨hU,hT⟩:=mont_four er0 ej1 ej2 ej3 hm0 hm1 hm2 hm3 (prod_le' wb0 hB) (prod_le' wb1 hB) (prod_le' wb2 hB) (prod_le' wb3 hB)
 obtain ⟨hr,hlt,r0,r1,r2,r3⟩:=row_fin e193 e194 e195 e196 e197 e198 e199 e200 e201 e202 e203 e204 e205 e206 u1 u2 u3 u4 hU
 refine ⟨?_,hlt,r0,r1,r2,r3⟩
 rw [four_mul (s 0)]
 exact mont_fin hr hT
def ex106:List Ex:=[
.sel (.v 198) (.v 195) (.v 186),
.sel (.v 198) (.v 193) (.v 184),
.sel (.v 198) (.v 191) (.v 182),
.sel (.v 198) (.v 189) (.v 180),
.subb (.v 188) (.c 0) (.v 196),
.subs (.v 188) (.c 0) (.v 196),
.subb (.v 186) (.c 4294967295) (.v 194),
.subs (.v 186) (.c 4294967295) (.v 194),
.subb (.v 184) (.c 18446744073709551615) (.v 192),
.subs (.v 184) (.c 18446744073709551615) (.v 192),
.subb (.v 182) (.c 18446744069414584320) (.v 190),
.subs (.v 182) (.c 18446744069414584320) (.v 190),
.subb (.v 180) (.c 1) (.c 0),
.subs (.v 180) (.c 1) (.c 0),
.add 64 (.v 187) (.v 164),
.addc (.v 163) (.v 177) (.v 185),
.adds (.v 163) (.v 177) (.v 185),
.addc (.v 161) (.v 175) (.v 183),
.adds (.v 161) (.v 175) (.v 183),
.addc (.v 159) (.v 173) (.v 181),
.adds (.v 159) (.v 173) (.v 181),
.addc (.v 157) (.v 172) (.v 179),
.adds (.v 157) (.v 172) (.v 179),
.addc (.v 155) (.v 166) (.c 0),
.adds (.v 155) (.v 166) (.c 0),
.add 64 (.v 176) (.v 167),
.addc (.v 169) (.v 168) (.v 174),
.adds (.v 169) (.v 168) (.v 174),
.addc (.v 171) (.v 170) (.c 0),
.adds (.v 171) (.v 170) (.c 0),
.mull (.v 166) (.c 18446744069414584320),
.mulh (.v 166) (.c 18446744069414584320),
.mull (.v 166) (.c 18446744073709551615),
.mulh (.v 166) (.c 18446744073709551615),
.mull (.v 166) (.c 4294967295),
.mulh (.v 166) (.c 4294967295),
.mull (.v 155) (.c 18446744073709551615),
.mulh (.v 155) (.c 18446744073709551615),
.addc (.v 139) (.v 154) (.v 162),
.adds (.v 139) (.v 154) (.v 162),
.addc (.v 137) (.v 152) (.v 160),
.adds (.v 137) (.v 152) (.v 160),
.addc (.v 135) (.v 150) (.v 158),
.adds (.v 135) (.v 150) (.v 158),
.addc (.v 133) (.v 148) (.v 156),
.adds (.v 133) (.v 148) (.v 156),
.addc (.v 131) (.v 147) (.c 0),
.adds (.v 131) (.v 147) (.c 0),
.add 64 (.v 153) (.v 140),
.addc (.v 142) (.v 141) (.v 151),
.adds (.v 142) (.v 141) (.v 151),
.addc (.v 144) (.v 143) (.v 149),
.adds (.v 144) (.v 143) (.v 149),
.addc (.v 146) (.v 145) (.c 0),
.adds (.v 146) (.v 145) (.c 0),
.mull (.v 3) (.v 0),
.mulh (.v 3) (.v 0),
.mull (.v 3) (.v 1),
.mulh (.v 3) (.v 1),
.mull (.v 3) (.v 2),
.mulh (.v 3) (.v 2),
.mull (.v 3) (.v 3),
.mulh (.v 3) (.v 3),
.add 64 (.v 138) (.v 115),
.addc (.v 114) (.v 128) (.v 136),
.adds (.v 114) (.v 128) (.v 136),
.addc (.v 112) (.v 126) (.v 134),
.adds (.v 112) (.v 126) (.v 134),
.addc (.v 110) (.v 124) (.v 132),
.adds (.v 110) (.v 124) (.v 132),
.addc (.v 108) (.v 123) (.v 130),
.adds (.v 108) (.v 123) (.v 130),
.addc (.v 106) (.v 117) (.c 0),
.adds (.v 106) (.v 117) (.c 0),
.add 64 (.v 127) (.v 118),
.addc (.v 120) (.v 119) (.v 125),
.adds (.v 120) (.v 119) (.v 125),
.addc (.v 122) (.v 121) (.c 0),
.adds (.v 122) (.v 121) (.c 0),
.mull (.v 117) (.c 18446744069414584320),
.mulh (.v 117) (.c 18446744069414584320),
.mull (.v 117) (.c 18446744073709551615),
.mulh (.v 117) (.c 18446744073709551615),
.mull (.v 117) (.c 4294967295),
.mulh (.v 117) (.c 4294967295),
.mull (.v 106) (.c 18446744073709551615),
.mulh (.v 106) (.c 18446744073709551615),
.addc (.v 90) (.v 105) (.v 113),
.adds (.v 90) (.v 105) (.v 113),
.addc (.v 88) (.v 103) (.v 111),
.adds (.v 88) (.v 103) (.v 111),
.addc (.v 86) (.v 101) (.v 109),
.adds (.v 86) (.v 101) (.v 109),
.addc (.v 84) (.v 99) (.v 107),
.adds (.v 84) (.v 99) (.v 107),
.addc (.v 82) (.v 98) (.c 0),
.adds (.v 82) (.v 98) (.c 0),
.add 64 (.v 104) (.v 91),
.addc (.v 93) (.v 92) (.v 102),
.adds (.v 93) (.v 92) (.v 102),
.addc (.v 95) (.v 94) (.v 100),
.adds (.v 95) (.v 94) (.v 100),
.addc (.v 97) (.v 96) (.c 0),
.adds (.v 97) (.v 96) (.c 0),
.mull (.v 2) (.v 0),
.mulh (.v 2) (.v 0),
.mull (.v 2) (.v 1),
.mulh (.v 2) (.v 1),
.mull (.v 2) (.v 2),
.mulh (.v 2) (.v 2),
.mull (.v 2) (.v 3),
.mulh (.v 2) (.v 3),
.add 64 (.v 89) (.v 66),
.addc (.v 65) (.v 79) (.v 87),
.adds (.v 65) (.v 79) (.v 87),
.addc (.v 63) (.v 77) (.v 85),
.adds (.v 63) (.v 77) (.v 85),
.addc (.v 61) (.v 75) (.v 83),
.adds (.v 61) (.v 75) (.v 83),
.addc (.v 59) (.v 74) (.v 81),
.adds (.v 59) (.v 74) (.v 81),
.addc (.v 57) (.v 68) (.c 0),
.adds (.v 57) (.v 68) (.c 0),
.add 64 (.v 78) (.v 69),
.addc (.v 71) (.v 70) (.v 76),
.adds (.v 71) (.v 70) (.v 76),
.addc (.v 73) (.v 72) (.c 0),
.adds (.v 73) (.v 72) (.c 0),
.mull (.v 68) (.c 18446744069414584320),
.mulh (.v 68) (.c 18446744069414584320),
.mull (.v 68) (.c 18446744073709551615),
.mulh (.v 68) (.c 18446744073709551615),
.mull (.v 68) (.c 4294967295),
.mulh (.v 68) (.c 4294967295),
.mull (.v 57) (.c 18446744073709551615),
.mulh (.v 57) (.c 18446744073709551615),
.addc (.v 41) (.v 56) (.v 64),
.adds (.v 41) (.v 56) (.v 64),
.addc (.v 40) (.v 54) (.v 62),
.adds (.v 40) (.v 54) (.v 62),
.addc (.v 38) (.v 52) (.v 60),
.adds (.v 38) (.v 52) (.v 60),
.addc (.v 36) (.v 50) (.v 58),
.adds (.v 36) (.v 50) (.v 58),
.addc (.v 34) (.v 49) (.c 0),
.adds (.v 34) (.v 49) (.c 0),
.add 64 (.v 55) (.v 42),
.addc (.v 44) (.v 43) (.v 53),
.adds (.v 44) (.v 43) (.v 53),
.addc (.v 46) (.v 45) (.v 51),
.adds (.v 46) (.v 45) (.v 51),
.addc (.v 48) (.v 47) (.c 0),
.adds (.v 48) (.v 47) (.c 0),
.mull (.v 1) (.v 0),
.mulh (.v 1) (.v 0),
.mull (.v 1) (.v 1),
.mulh (.v 1) (.v 1),
.mull (.v 1) (.v 2),
.mulh (.v 1) (.v 2),
.mull (.v 1) (.v 3),
.mulh (.v 1) (.v 3),
.addc (.v 18) (.v 31) (.v 39),
.adds (.v 18) (.v 31) (.v 39),
.addc (.v 16) (.v 29) (.v 37),
.adds (.v 16) (.v 29) (.v 37),
.addc (.v 14) (.v 27) (.v 35),
.adds (.v 14) (.v 27) (.v 35),
.addc (.v 12) (.v 26) (.v 33),
.adds (.v 12) (.v 26) (.v 33),
.addc (.v 11) (.v 20) (.c 0),
.adds (.v 11) (.v 20) (.c 0),
.add 64 (.v 30) (.v 21),
.addc (.v 23) (.v 22) (.v 28),
.adds (.v 23) (.v 22) (.v 28),
.addc (.v 25) (.v 24) (.c 0),
.adds (.v 25) (.v 24) (.c 0),
.mull (.v 20) (.c 18446744069414584320),
.mulh (.v 20) (.c 18446744069414584320),
.mull (.v 20) (.c 18446744073709551615),
.mulh (.v 20) (.c 18446744073709551615),
.mull (.v 20) (.c 4294967295),
.mulh (.v 20) (.c 4294967295),
.mull (.v 11) (.c 18446744073709551615),
.mulh (.v 11) (.c 18446744073709551615),
.add 64 (.v 17) (.v 4),
.addc (.v 6) (.v 5) (.v 15),
.adds (.v 6) (.v 5) (.v 15),
.addc (.v 8) (.v 7) (.v 13),
.adds (.v 8) (.v 7) (.v 13),
.addc (.v 10) (.v 9) (.c 0),
.adds (.v 10) (.v 9) (.c 0),
.mull (.v 0) (.v 0),
.mulh (.v 0) (.v 0),
.mull (.v 0) (.v 1),
.mulh (.v 0) (.v 1),
.mull (.v 0) (.v 2),
.mulh (.v 0) (.v 2),
.mull (.v 0) (.v 3),
.mulh (.v 0) (.v 3)]
theorem holds106 {s:Nums} (h:Holds s 203 ex106) (wb0:s 0<18446744073709551616) (wb1:s 1<18446744073709551616) (wb2:s 2<18446744073709551616) (wb3:s 3<18446744073709551616) (hB:s 0+18446744073709551616*s 1+340282366920938463463374607431768211456*s 2+6277101735386680763835789423207666416102355444464034512896*s 3<26959946667150639794667015087019630673557916260026308143510066298881) :
  (s 199+18446744073709551616*s 200+340282366920938463463374607431768211456*s 201+6277101735386680763835789423207666416102355444464034512896*s 202)*115792089237316195423570985008687907853269984665640564039457584007913129639936 % 26959946667150639794667015087019630673557916260026308143510066298881=(s 0+18446744073709551616*s 1+340282366920938463463374607431768211456*s 2+6277101735386680763835789423207666416102355444464034512896*s 3)*(s 0+18446744073709551616*s 1+340282366920938463463374607431768211456*s 2+6277101735386680763835789423207666416102355444464034512896*s 3) % 26959946667150639794667015087019630673557916260026308143510066298881∧s 199+18446744073709551616*s 200+340282366920938463463374607431768211456*s 201+6277101735386680763835789423207666416102355444464034512896*s 202<26959946667150639794667015087019630673557916260026308143510066298881∧s 199<18446744073709551616∧s 200<18446744073709551616∧s 201<18446744073709551616∧s 202<18446744073709551616:=by
 have e4:s 4=s 0*s 3 / 18446744073709551616:=h.at 198 4 (.mulh (.v 0) (.v 3)) rfl rfl
 have e5:s 5=s 0*s 3 % 18446744073709551616:=h.at 197 5 (.mull (.v 0) (.v 3)) rfl rfl
 have e6:s 6=s 0*s 2 / 18446744073709551616:=h.at 196 6 (.mulh (.v 0) (.v 2)) rfl rfl
 have e7:s 7=s 0*s 2 % 18446744073709551616:=h.at 195 7 (.mull (.v 0) (.v 2)) rfl rfl
 have e8:s 8=s 0*s 1 / 18446744073709551616:=h.at 194 8 (.mulh (.v 0) (.v 1)) rfl rfl
 have e9:s 9=s 0*s 1 % 18446744073709551616:=h.at 193 9 (.mull (.v 0) (.v 1)) rfl rfl
 have e10:s 10=s 0*s 0 / 18446744073709551616:=h.at 192 10 (.mulh (.v 0) (.v 0)) rfl rfl
 have e11:s 11=s 0*s 0 % 18446744073709551616:=h.at 191 11 (.mull (.v 0) (.v 0)) rfl rfl
 have e12:s 12=(s 10+s 9+0) % 18446744073709551616:=h.at 190 12 (.adds (.v 10) (.v 9) (.c 0)) rfl rfl
 have e13:s 13=(s 10+s 9+0) / 18446744073709551616:=h.at 189 13 (.addc (.v 10) (.v 9) (.c 0)) rfl rfl
 have e14:s 14=(s 8+s 7+s 13) % 18446744073709551616:=h.at 188 14 (.adds (.v 8) (.v 7) (.v 13)) rfl rfl
 have e15:s 15=(s 8+s 7+s 13) / 18446744073709551616:=h.at 187 15 (.addc (.v 8) (.v 7) (.v 13)) rfl rfl
 have e16:s 16=(s 6+s 5+s 15) % 18446744073709551616:=h.at 186 16 (.adds (.v 6) (.v 5) (.v 15)) rfl rfl
 have e17:s 17=(s 6+s 5+s 15) / 18446744073709551616:=h.at 185 17 (.addc (.v 6) (.v 5) (.v 15)) rfl rfl
 have e18:s 18=(s 17+s 4) % 18446744073709551616:=h.at 184 18 (.add 64 (.v 17) (.v 4)) rfl rfl
 have e19:s 19=s 11*18446744073709551615 / 18446744073709551616:=h.at 183 19 (.mulh (.v 11) (.c 18446744073709551615)) rfl rfl
 have e20:s 20=s 11*18446744073709551615 % 18446744073709551616:=h.at 182 20 (.mull (.v 11) (.c 18446744073709551615)) rfl rfl
 have e21:s 21=s 20*4294967295 / 18446744073709551616:=h.at 181 21 (.mulh (.v 20) (.c 4294967295)) rfl rfl
 have e22:s 22=s 20*4294967295 % 18446744073709551616:=h.at 180 22 (.mull (.v 20) (.c 4294967295)) rfl rfl
 have e23:s 23=s 20*18446744073709551615 / 18446744073709551616:=h.at 179 23 (.mulh (.v 20) (.c 18446744073709551615)) rfl rfl
 have e24:s 24=s 20*18446744073709551615 % 18446744073709551616:=h.at 178 24 (.mull (.v 20) (.c 18446744073709551615)) rfl rfl
 have e25:s 25=s 20*18446744069414584320 / 18446744073709551616:=h.at 177 25 (.mulh (.v 20) (.c 18446744069414584320)) rfl rfl
 have e26:s 26=s 20*18446744069414584320 % 18446744073709551616:=h.at 176 26 (.mull (.v 20) (.c 18446744069414584320)) rfl rfl
 have e27:s 27=(s 25+s 24+0) % 18446744073709551616:=h.at 175 27 (.adds (.v 25) (.v 24) (.c 0)) rfl rfl
 have e28:s 28=(s 25+s 24+0) / 18446744073709551616:=h.at 174 28 (.addc (.v 25) (.v 24) (.c 0)) rfl rfl
 have e29:s 29=(s 23+s 22+s 28) % 18446744073709551616:=h.at 173 29 (.adds (.v 23) (.v 22) (.v 28)) rfl rfl
 have e30:s 30=(s 23+s 22+s 28) / 18446744073709551616:=h.at 172 30 (.addc (.v 23) (.v 22) (.v 28)) rfl rfl
 have e31:s 31=(s 30+s 21) % 18446744073709551616:=h.at 171 31 (.add 64 (.v 30) (.v 21)) rfl rfl
 have e32:s 32=(s 11+s 20+0) % 18446744073709551616:=h.at 170 32 (.adds (.v 11) (.v 20) (.c 0)) rfl rfl
 have e33:s 33=(s 11+s 20+0) / 18446744073709551616:=h.at 169 33 (.addc (.v 11) (.v 20) (.c 0)) rfl rfl
 have e34:s 34=(s 12+s 26+s 33) % 18446744073709551616:=h.at 168 34 (.adds (.v 12) (.v 26) (.v 33)) rfl rfl
 have e35:s 35=(s 12+s 26+s 33) / 18446744073709551616:=h.at 167 35 (.addc (.v 12) (.v 26) (.v 33)) rfl rfl
 have e36:s 36=(s 14+s 27+s 35) % 18446744073709551616:=h.at 166 36 (.adds (.v 14) (.v 27) (.v 35)) rfl rfl
 have e37:s 37=(s 14+s 27+s 35) / 18446744073709551616:=h.at 165 37 (.addc (.v 14) (.v 27) (.v 35)) rfl rfl
 have e38:s 38=(s 16+s 29+s 37) % 18446744073709551616:=h.at 164 38 (.adds (.v 16) (.v 29) (.v 37)) rfl rfl
 have e39:s 39=(s 16+s 29+s 37) / 18446744073709551616:=h.at 163 39 (.addc (.v 16) (.v 29) (.v 37)) rfl rfl
 have e40:s 40=(s 18+s 31+s 39) % 18446744073709551616:=h.at 162 40 (.adds (.v 18) (.v 31) (.v 39)) rfl rfl
 have e41:s 41=(s 18+s 31+s 39) / 18446744073709551616:=h.at 161 41 (.addc (.v 18) (.v 31) (.v 39)) rfl rfl
 have e42:s 42=s 1*s 3 / 18446744073709551616:=h.at 160 42 (.mulh (.v 1) (.v 3)) rfl rfl
 have e43:s 43=s 1*s 3 % 18446744073709551616:=h.at 159 43 (.mull (.v 1) (.v 3)) rfl rfl
 have e44:s 44=s 1*s 2 / 18446744073709551616:=h.at 158 44 (.mulh (.v 1) (.v 2)) rfl rfl
 have e45:s 45=s 1*s 2 % 18446744073709551616:=h.at 157 45 (.mull (.v 1) (.v 2)) rfl rfl
 have e46:s 46=s 1*s 1 / 18446744073709551616:=h.at 156 46 (.mulh (.v 1) (.v 1)) rfl rfl
 have e47:s 47=s 1*s 1 % 18446744073709551616:=h.at 155 47 (.mull (.v 1) (.v 1)) rfl rfl
 have e48:s 48=s 1*s 0 / 18446744073709551616:=h.at 154 48 (.mulh (.v 1) (.v 0)) rfl rfl
 have e49:s 49=s 1*s 0 % 18446744073709551616:=h.at 153 49 (.mull (.v 1) (.v 0)) rfl rfl
 have e50:s 50=(s 48+s 47+0) % 18446744073709551616:=h.at 152 50 (.adds (.v 48) (.v 47) (.c 0)) rfl rfl
 have e51:s 51=(s 48+s 47+0) / 18446744073709551616:=h.at 151 51 (.addc (.v 48) (.v 47) (.c 0)) rfl rfl
 have e52:s 52=(s 46+s 45+s 51) % 18446744073709551616:=h.at 150 52 (.adds (.v 46) (.v 45) (.v 51)) rfl rfl
 have e53:s 53=(s 46+s 45+s 51) / 18446744073709551616:=h.at 149 53 (.addc (.v 46) (.v 45) (.v 51)) rfl rfl
 have e54:s 54=(s 44+s 43+s 53) % 18446744073709551616:=h.at 148 54 (.adds (.v 44) (.v 43) (.v 53)) rfl rfl
 have e55:s 55=(s 44+s 43+s 53) / 18446744073709551616:=h.at 147 55 (.addc (.v 44) (.v 43) (.v 53)) rfl rfl
 have e56:s 56=(s 55+s 42) % 18446744073709551616:=h.at 146 56 (.add 64 (.v 55) (.v 42)) rfl rfl
 have e57:s 57=(s 34+s 49+0) % 18446744073709551616:=h.at 145 57 (.adds (.v 34) (.v 49) (.c 0)) rfl rfl
 have e58:s 58=(s 34+s 49+0) / 18446744073709551616:=h.at 144 58 (.addc (.v 34) (.v 49) (.c 0)) rfl rfl
 have e59:s 59=(s 36+s 50+s 58) % 18446744073709551616:=h.at 143 59 (.adds (.v 36) (.v 50) (.v 58)) rfl rfl
 have e60:s 60=(s 36+s 50+s 58) / 18446744073709551616:=h.at 142 60 (.addc (.v 36) (.v 50) (.v 58)) rfl rfl
 have e61:s 61=(s 38+s 52+s 60) % 18446744073709551616:=h.at 141 61 (.adds (.v 38) (.v 52) (.v 60)) rfl rfl
 have e62:s 62=(s 38+s 52+s 60) / 18446744073709551616:=h.at 140 62 (.addc (.v 38) (.v 52) (.v 60)) rfl rfl
 have e63:s 63=(s 40+s 54+s 62) % 18446744073709551616:=h.at 139 63 (.adds (.v 40) (.v 54) (.v 62)) rfl rfl
 have e64:s 64=(s 40+s 54+s 62) / 18446744073709551616:=h.at 138 64 (.addc (.v 40) (.v 54) (.v 62)) rfl rfl
 have e65:s 65=(s 41+s 56+s 64) % 18446744073709551616:=h.at 137 65 (.adds (.v 41) (.v 56) (.v 64)) rfl rfl
 have e66:s 66=(s 41+s 56+s 64) / 18446744073709551616:=h.at 136 66 (.addc (.v 41) (.v 56) (.v 64)) rfl rfl
 have e67:s 67=s 57*18446744073709551615 / 18446744073709551616:=h.at 135 67 (.mulh (.v 57) (.c 18446744073709551615)) rfl rfl
 have e68:s 68=s 57*18446744073709551615 % 18446744073709551616:=h.at 134 68 (.mull (.v 57) (.c 18446744073709551615)) rfl rfl
 have e69:s 69=s 68*4294967295 / 18446744073709551616:=h.at 133 69 (.mulh (.v 68) (.c 4294967295)) rfl rfl
 have e70:s 70=s 68*4294967295 % 18446744073709551616:=h.at 132 70 (.mull (.v 68) (.c 4294967295)) rfl rfl
 have e71:s 71=s 68*18446744073709551615 / 18446744073709551616:=h.at 131 71 (.mulh (.v 68) (.c 18446744073709551615)) rfl rfl
 have e72:s 72=s 68*18446744073709551615 % 18446744073709551616:=h.at 130 72 (.mull (.v 68) (.c 18446744073709551615)) rfl rfl
 have e73:s 73=s 68*18446744069414584320 / 18446744073709551616:=h.at 129 73 (.mulh (.v 68) (.c 18446744069414584320)) rfl rfl
 have e74:s 74=s 68*18446744069414584320 % 18446744073709551616:=h.at 128 74 (.mull (.v 68) (.c 18446744069414584320)) rfl rfl
 have e75:s 75=(s 73+s 72+0) % 18446744073709551616:=h.at 127 75 (.adds (.v 73) (.v 72) (.c 0)) rfl rfl
 have e76:s 76=(s 73+s 72+0) / 18446744073709551616:=h.at 126 76 (.addc (.v 73) (.v 72) (.c 0)) rfl rfl
 have e77:s 77=(s 71+s 70+s 76) % 18446744073709551616:=h.at 125 77 (.adds (.v 71) (.v 70) (.v 76)) rfl rfl
 have e78:s 78=(s 71+s 70+s 76) / 18446744073709551616:=h.at 124 78 (.addc (.v 71) (.v 70) (.v 76)) rfl rfl
 have e79:s 79=(s 78+s 69) % 18446744073709551616:=h.at 123 79 (.add 64 (.v 78) (.v 69)) rfl rfl
 have e80:s 80=(s 57+s 68+0) % 18446744073709551616:=h.at 122 80 (.adds (.v 57) (.v 68) (.c 0)) rfl rfl
 have e81:s 81=(s 57+s 68+0) / 18446744073709551616:=h.at 121 81 (.addc (.v 57) (.v 68) (.c 0)) rfl rfl
 have e82:s 82=(s 59+s 74+s 81) % 18446744073709551616:=h.at 120 82 (.adds (.v 59) (.v 74) (.v 81)) rfl rfl
 have e83:s 83=(s 59+s 74+s 81) / 18446744073709551616:=h.at 119 83 (.addc (.v 59) (.v 74) (.v 81)) rfl rfl
 have e84:s 84=(s 61+s 75+s 83) % 18446744073709551616:=h.at 118 84 (.adds (.v 61) (.v 75) (.v 83)) rfl rfl
 have e85:s 85=(s 61+s 75+s 83) / 18446744073709551616:=h.at 117 85 (.addc (.v 61) (.v 75) (.v 83)) rfl rfl
 have e86:s 86=(s 63+s 77+s 85) % 18446744073709551616:=h.at 116 86 (.adds (.v 63) (.v 77) (.v 85)) rfl rfl
 have e87:s 87=(s 63+s 77+s 85) / 18446744073709551616:=h.at 115 87 (.addc (.v 63) (.v 77) (.v 85)) rfl rfl
 have e88:s 88=(s 65+s 79+s 87) % 18446744073709551616:=h.at 114 88 (.adds (.v 65) (.v 79) (.v 87)) rfl rfl
 have e89:s 89=(s 65+s 79+s 87) / 18446744073709551616:=h.at 113 89 (.addc (.v 65) (.v 79) (.v 87)) rfl rfl
 have e90:s 90=(s 89+s 66) % 18446744073709551616:=h.at 112 90 (.add 64 (.v 89) (.v 66)) rfl rfl
 have e91:s 91=s 2*s 3 / 18446744073709551616:=h.at 111 91 (.mulh (.v 2) (.v 3)) rfl rfl
 have e92:s 92=s 2*s 3 % 18446744073709551616:=h.at 110 92 (.mull (.v 2) (.v 3)) rfl rfl
 have e93:s 93=s 2*s 2 / 18446744073709551616:=h.at 109 93 (.mulh (.v 2) (.v 2)) rfl rfl
 have e94:s 94=s 2*s 2 % 18446744073709551616:=h.at 108 94 (.mull (.v 2) (.v 2)) rfl rfl
 have e95:s 95=s 2*s 1 / 18446744073709551616:=h.at 107 95 (.mulh (.v 2) (.v 1)) rfl rfl
 have e96:s 96=s 2*s 1 % 18446744073709551616:=h.at 106 96 (.mull (.v 2) (.v 1)) rfl rfl
 have e97:s 97=s 2*s 0 / 18446744073709551616:=h.at 105 97 (.mulh (.v 2) (.v 0)) rfl rfl
 have e98:s 98=s 2*s 0 % 18446744073709551616:=h.at 104 98 (.mull (.v 2) (.v 0)) rfl rfl
 have e99:s 99=(s 97+s 96+0) % 18446744073709551616:=h.at 103 99 (.adds (.v 97) (.v 96) (.c 0)) rfl rfl
 have e100:s 100=(s 97+s 96+0) / 18446744073709551616:=h.at 102 100 (.addc (.v 97) (.v 96) (.c 0)) rfl rfl
 have e101:s 101=(s 95+s 94+s 100) % 18446744073709551616:=h.at 101 101 (.adds (.v 95) (.v 94) (.v 100)) rfl rfl
 have e102:s 102=(s 95+s 94+s 100) / 18446744073709551616:=h.at 100 102 (.addc (.v 95) (.v 94) (.v 100)) rfl rfl
 have e103:s 103=(s 93+s 92+s 102) % 18446744073709551616:=h.at 99 103 (.adds (.v 93) (.v 92) (.v 102)) rfl rfl
 have e104:s 104=(s 93+s 92+s 102) / 18446744073709551616:=h.at 98 104 (.addc (.v 93) (.v 92) (.v 102)) rfl rfl
 have e105:s 105=(s 104+s 91) % 18446744073709551616:=h.at 97 105 (.add 64 (.v 104) (.v 91)) rfl rfl
 have e106:s 106=(s 82+s 98+0) % 18446744073709551616:=h.at 96 106 (.adds (.v 82) (.v 98) (.c 0)) rfl rfl
 have e107:s 107=(s 82+s 98+0) / 18446744073709551616:=h.at 95 107 (.addc (.v 82) (.v 98) (.c 0)) rfl rfl
 have e108:s 108=(s 84+s 99+s 107) % 18446744073709551616:=h.at 94 108 (.adds (.v 84) (.v 99) (.v 107)) rfl rfl
 have e109:s 109=(s 84+s 99+s 107) / 18446744073709551616:=h.at 93 109 (.addc (.v 84) (.v 99) (.v 107)) rfl rfl
 have e110:s 110=(s 86+s 101+s 109) % 18446744073709551616:=h.at 92 110 (.adds (.v 86) (.v 101) (.v 109)) rfl rfl
 have e111:s 111=(s 86+s 101+s 109) / 18446744073709551616:=h.at 91 111 (.addc (.v 86) (.v 101) (.v 109)) rfl rfl
 have e112:s 112=(s 88+s 103+s 111) % 18446744073709551616:=h.at 90 112 (.adds (.v 88) (.v 103) (.v 111)) rfl rfl
 have e113:s 113=(s 88+s 103+s 111) / 18446744073709551616:=h.at 89 113 (.addc (.v 88) (.v 103) (.v 111)) rfl rfl
 have e114:s 114=(s 90+s 105+s 113) % 18446744073709551616:=h.at 88 114 (.adds (.v 90) (.v 105) (.v 113)) rfl rfl
 have e115:s 115=(s 90+s 105+s 113) / 18446744073709551616:=h.at 87 115 (.addc (.v 90) (.v 105) (.v 113)) rfl rfl
 have e116:s 116=s 106*18446744073709551615 / 18446744073709551616:=h.at 86 116 (.mulh (.v 106) (.c 18446744073709551615)) rfl rfl
 have e117:s 117=s 106*18446744073709551615 % 18446744073709551616:=h.at 85 117 (.mull (.v 106) (.c 18446744073709551615)) rfl rfl
 have e118:s 118=s 117*4294967295 / 18446744073709551616:=h.at 84 118 (.mulh (.v 117) (.c 4294967295)) rfl rfl
 have e119:s 119=s 117*4294967295 % 18446744073709551616:=h.at 83 119 (.mull (.v 117) (.c 4294967295)) rfl rfl
 have e120:s 120=s 117*18446744073709551615 / 18446744073709551616:=h.at 82 120 (.mulh (.v 117) (.c 18446744073709551615)) rfl rfl
 have e121:s 121=s 117*18446744073709551615 % 18446744073709551616:=h.at 81 121 (.mull (.v 117) (.c 18446744073709551615)) rfl rfl
 have e122:s 122=s 117*18446744069414584320 / 18446744073709551616:=h.at 80 122 (.mulh (.v 117) (.c 18446744069414584320)) rfl rfl
 have e123:s 123=s 117*18446744069414584320 % 18446744073709551616:=h.at 79 123 (.mull (.v 117) (.c 18446744069414584320)) rfl rfl
 have e124:s 124=(s 122+s 121+0) % 18446744073709551616:=h.at 78 124 (.adds (.v 122) (.v 121) (.c 0)) rfl rfl
 have e125:s 125=(s 122+s 121+0) / 18446744073709551616:=h.at 77 125 (.addc (.v 122) (.v 121) (.c 0)) rfl rfl
 have e126:s 126=(s 120+s 119+s 125) % 18446744073709551616:=h.at 76 126 (.adds (.v 120) (.v 119) (.v 125)) rfl rfl
 have e127:s 127=(s 120+s 119+s 125) / 18446744073709551616:=h.at 75 127 (.addc (.v 120) (.v 119) (.v 125)) rfl rfl
 have e128:s 128=(s 127+s 118) % 18446744073709551616:=h.at 74 128 (.add 64 (.v 127) (.v 118)) rfl rfl
 have e129:s 129=(s 106+s 117+0) % 18446744073709551616:=h.at 73 129 (.adds (.v 106) (.v 117) (.c 0)) rfl rfl
 have e130:s 130=(s 106+s 117+0) / 18446744073709551616:=h.at 72 130 (.addc (.v 106) (.v 117) (.c 0)) rfl rfl
 have e131:s 131=(s 108+s 123+s 130) % 18446744073709551616:=h.at 71 131 (.adds (.v 108) (.v 123) (.v 130)) rfl rfl
 have e132:s 132=(s 108+s 123+s 130) / 18446744073709551616:=h.at 70 132 (.addc (.v 108) (.v 123) (.v 130)) rfl rfl
 have e133:s 133=(s 110+s 124+s 132) % 18446744073709551616:=h.at 69 133 (.adds (.v 110) (.v 124) (.v 132)) rfl rfl
 have e134:s 134=(s 110+s 124+s 132) / 18446744073709551616:=h.at 68 134 (.addc (.v 110) (.v 124) (.v 132)) rfl rfl
 have e135:s 135=(s 112+s 126+s 134) % 18446744073709551616:=h.at 67 135 (.adds (.v 112) (.v 126) (.v 134)) rfl rfl
 have e136:s 136=(s 112+s 126+s 134) / 18446744073709551616:=h.at 66 136 (.addc (.v 112) (.v 126) (.v 134)) rfl rfl
 have e137:s 137=(s 114+s 128+s 136) % 18446744073709551616:=h.at 65 137 (.adds (.v 114) (.v 128) (.v 136)) rfl rfl
 have e138:s 138=(s 114+s 128+s 136) / 18446744073709551616:=h.at 64 138 (.addc (.v 114) (.v 128) (.v 136)) rfl rfl
 have e139:s 139=(s 138+s 115) % 18446744073709551616:=h.at 63 139 (.add 64 (.v 138) (.v 115)) rfl rfl
 have e140:s 140=s 3*s 3 / 18446744073709551616:=h.at 62 140 (.mulh (.v 3) (.v 3)) rfl rfl
 have e141:s 141=s 3*s 3 % 18446744073709551616:=h.at 61 141 (.mull (.v 3) (.v 3)) rfl rfl
 have e142:s 142=s 3*s 2 / 18446744073709551616:=h.at 60 142 (.mulh (.v 3) (.v 2)) rfl rfl
 have e143:s 143=s 3*s 2 % 18446744073709551616:=h.at 59 143 (.mull (.v 3) (.v 2)) rfl rfl
 have e144:s 144=s 3*s 1 / 18446744073709551616:=h.at 58 144 (.mulh (.v 3) (.v 1)) rfl rfl
 have e145:s 145=s 3*s 1 % 18446744073709551616:=h.at 57 145 (.mull (.v 3) (.v 1)) rfl rfl
 have e146:s 146=s 3*s 0 / 18446744073709551616:=h.at 56 146 (.mulh (.v 3) (.v 0)) rfl rfl
 have e147:s 147=s 3*s 0 % 18446744073709551616:=h.at 55 147 (.mull (.v 3) (.v 0)) rfl rfl
 have e148:s 148=(s 146+s 145+0) % 18446744073709551616:=h.at 54 148 (.adds (.v 146) (.v 145) (.c 0)) rfl rfl
 have e149:s 149=(s 146+s 145+0) / 18446744073709551616:=h.at 53 149 (.addc (.v 146) (.v 145) (.c 0)) rfl rfl
 have e150:s 150=(s 144+s 143+s 149) % 18446744073709551616:=h.at 52 150 (.adds (.v 144) (.v 143) (.v 149)) rfl rfl
 have e151:s 151=(s 144+s 143+s 149) / 18446744073709551616:=h.at 51 151 (.addc (.v 144) (.v 143) (.v 149)) rfl rfl
 have e152:s 152=(s 142+s 141+s 151) % 18446744073709551616:=h.at 50 152 (.adds (.v 142) (.v 141) (.v 151)) rfl rfl
 have e153:s 153=(s 142+s 141+s 151) / 18446744073709551616:=h.at 49 153 (.addc (.v 142) (.v 141) (.v 151)) rfl rfl
 have e154:s 154=(s 153+s 140) % 18446744073709551616:=h.at 48 154 (.add 64 (.v 153) (.v 140)) rfl rfl
 have e155:s 155=(s 131+s 147+0) % 18446744073709551616:=h.at 47 155 (.adds (.v 131) (.v 147) (.c 0)) rfl rfl
 have e156:s 156=(s 131+s 147+0) / 18446744073709551616:=h.at 46 156 (.addc (.v 131) (.v 147) (.c 0)) rfl rfl
 have e157:s 157=(s 133+s 148+s 156) % 18446744073709551616:=h.at 45 157 (.adds (.v 133) (.v 148) (.v 156)) rfl rfl
 have e158:s 158=(s 133+s 148+s 156) / 18446744073709551616:=h.at 44 158 (.addc (.v 133) (.v 148) (.v 156)) rfl rfl
 have e159:s 159=(s 135+s 150+s 158) % 18446744073709551616:=h.at 43 159 (.adds (.v 135) (.v 150) (.v 158)) rfl rfl
 have e160:s 160=(s 135+s 150+s 158) / 18446744073709551616:=h.at 42 160 (.addc (.v 135) (.v 150) (.v 158)) rfl rfl
 have e161:s 161=(s 137+s 152+s 160) % 18446744073709551616:=h.at 41 161 (.adds (.v 137) (.v 152) (.v 160)) rfl rfl
 have e162:s 162=(s 137+s 152+s 160) / 18446744073709551616:=h.at 40 162 (.addc (.v 137) (.v 152) (.v 160)) rfl rfl
 have e163:s 163=(s 139+s 154+s 162) % 18446744073709551616:=h.at 39 163 (.adds (.v 139) (.v 154) (.v 162)) rfl rfl
 have e164:s 164=(s 139+s 154+s 162) / 18446744073709551616:=h.at 38 164 (.addc (.v 139) (.v 154) (.v 162)) rfl rfl
 have e165:s 165=s 155*18446744073709551615 / 18446744073709551616:=h.at 37 165 (.mulh (.v 155) (.c 18446744073709551615)) rfl rfl
 have e166:s 166=s 155*18446744073709551615 % 18446744073709551616:=h.at 36 166 (.mull (.v 155) (.c 18446744073709551615)) rfl rfl
 have e167:s 167=s 166*4294967295 / 18446744073709551616:=h.at 35 167 (.mulh (.v 166) (.c 4294967295)) rfl rfl
 have e168:s 168=s 166*4294967295 % 18446744073709551616:=h.at 34 168 (.mull (.v 166) (.c 4294967295)) rfl rfl
 have e169:s 169=s 166*18446744073709551615 / 18446744073709551616:=h.at 33 169 (.mulh (.v 166) (.c 18446744073709551615)) rfl rfl
 have e170:s 170=s 166*18446744073709551615 % 18446744073709551616:=h.at 32 170 (.mull (.v 166) (.c 18446744073709551615)) rfl rfl
 have e171:s 171=s 166*18446744069414584320 / 18446744073709551616:=h.at 31 171 (.mulh (.v 166) (.c 18446744069414584320)) rfl rfl
 have e172:s 172=s 166*18446744069414584320 % 18446744073709551616:=h.at 30 172 (.mull (.v 166) (.c 18446744069414584320)) rfl rfl
 have e173:s 173=(s 171+s 170+0) % 18446744073709551616:=h.at 29 173 (.adds (.v 171) (.v 170) (.c 0)) rfl rfl
 have e174:s 174=(s 171+s 170+0) / 18446744073709551616:=h.at 28 174 (.addc (.v 171) (.v 170) (.c 0)) rfl rfl
 have e175:s 175=(s 169+s 168+s 174) % 18446744073709551616:=h.at 27 175 (.adds (.v 169) (.v 168) (.v 174)) rfl rfl
 have e176:s 176=(s 169+s 168+s 174) / 18446744073709551616:=h.at 26 176 (.addc (.v 169) (.v 168) (.v 174)) rfl rfl
 have e177:s 177=(s 176+s 167) % 18446744073709551616:=h.at 25 177 (.add 64 (.v 176) (.v 167)) rfl rfl
 have e178:s 178=(s 155+s 166+0) % 18446744073709551616:=h.at 24 178 (.adds (.v 155) (.v 166) (.c 0)) rfl rfl
 have e179:s 179=(s 155+s 166+0) / 18446744073709551616:=h.at 23 179 (.addc (.v 155) (.v 166) (.c 0)) rfl rfl
 have e180:s 180=(s 157+s 172+s 179) % 18446744073709551616:=h.at 22 180 (.adds (.v 157) (.v 172) (.v 179)) rfl rfl
 have e181:s 181=(s 157+s 172+s 179) / 18446744073709551616:=h.at 21 181 (.addc (.v 157) (.v 172) (.v 179)) rfl rfl
 have e182:s 182=(s 159+s 173+s 181) % 18446744073709551616:=h.at 20 182 (.adds (.v 159) (.v 173) (.v 181)) rfl rfl
 have e183:s 183=(s 159+s 173+s 181) / 18446744073709551616:=h.at 19 183 (.addc (.v 159) (.v 173) (.v 181)) rfl rfl
 have e184:s 184=(s 161+s 175+s 183) % 18446744073709551616:=h.at 18 184 (.adds (.v 161) (.v 175) (.v 183)) rfl rfl
 have e185:s 185=(s 161+s 175+s 183) / 18446744073709551616:=h.at 17 185 (.addc (.v 161) (.v 175) (.v 183)) rfl rfl
 have e186:s 186=(s 163+s 177+s 185) % 18446744073709551616:=h.at 16 186 (.adds (.v 163) (.v 177) (.v 185)) rfl rfl
 have e187:s 187=(s 163+s 177+s 185) / 18446744073709551616:=h.at 15 187 (.addc (.v 163) (.v 177) (.v 185)) rfl rfl
 have e188:s 188=(s 187+s 164) % 18446744073709551616:=h.at 14 188 (.add 64 (.v 187) (.v 164)) rfl rfl
 have e189:s 189=(s 180+18446744073709551616 - 1 - 0) % 18446744073709551616:=h.at 13 189 (.subs (.v 180) (.c 1) (.c 0)) rfl rfl
 have e190:s 190=if s 180<1+0 then 1 else 0:=h.at 12 190 (.subb (.v 180) (.c 1) (.c 0)) rfl rfl
 have e191:s 191=(s 182+18446744073709551616 - 18446744069414584320 - s 190) % 18446744073709551616:=h.at 11 191 (.subs (.v 182) (.c 18446744069414584320) (.v 190)) rfl rfl
 have e192:s 192=if s 182<18446744069414584320+s 190 then 1 else 0:=h.at 10 192 (.subb (.v 182) (.c 18446744069414584320) (.v 190)) rfl rfl
 have e193:s 193=(s 184+18446744073709551616 - 18446744073709551615 - s 192) % 18446744073709551616:=h.at 9 193 (.subs (.v 184) (.c 18446744073709551615) (.v 192)) rfl rfl
 have e194:s 194=if s 184<18446744073709551615+s 192 then 1 else 0:=h.at 8 194 (.subb (.v 184) (.c 18446744073709551615) (.v 192)) rfl rfl
 have e195:s 195=(s 186+18446744073709551616 - 4294967295 - s 194) % 18446744073709551616:=h.at 7 195 (.subs (.v 186) (.c 4294967295) (.v 194)) rfl rfl
 have e196:s 196=if s 186<4294967295+s 194 then 1 else 0:=h.at 6 196 (.subb (.v 186) (.c 4294967295) (.v 194)) rfl rfl
 have e197:s 197=(s 188+18446744073709551616 - 0 - s 196) % 18446744073709551616:=h.at 5 197 (.subs (.v 188) (.c 0) (.v 196)) rfl rfl
 have e198:s 198=if s 188<0+s 196 then 1 else 0:=h.at 4 198 (.subb (.v 188) (.c 0) (.v 196)) rfl rfl
 have e199:s 199=if s 198=0 then s 189 else s 180:=h.at 3 199 (.sel (.v 198) (.v 189) (.v 180)) rfl rfl
 have e200:s 200=if s 198=0 then s 191 else s 182:=h.at 2 200 (.sel (.v 198) (.v 191) (.v 182)) rfl rfl
 have e201:s 201=if s 198=0 then s 193 else s 184:=h.at 1 201 (.sel (.v 198) (.v 193) (.v 184)) rfl rfl
 have e202:s 202=if s 198=0 then s 195 else s 186:=h.at 0 202 (.sel (.v 198) (.v 195) (.v 186)) rfl rfl
 clear h
 obtain ⟨em0,l0,l1,l2,l3,l4⟩:=row_mul wb0 wb0 wb1 wb2 wb3 e4 e5 e6 e7 e8 e9 e10 e11 e12 e13 e14 e15 e16 e17 e18
 obtain ⟨er0,hm0,u1,u2,u3,u4,g4⟩:=row_red e19 e20 e21 e22 e23 e24 e25 e26 e27 e28 e29 e30 e31 e32 e33 e34 e35 e36 e37 e38 e39 e40 e41 l0 l1 l2 l3 l4
 rw [em0] at er0
 obtain ⟨em1,k0,k1,k2,k3,k4⟩:=row_mul wb1 wb0 wb1 wb2 wb3 e42 e43 e44 e45 e46 e47 e48 e49 e50 e51 e52 e53 e54 e55 e56
 obtain ⟨ea1,v0,v1,v2,v3,v4,d4⟩:=row_acc e57 e58 e59 e60 e61 e62 e63 e64 e65 e66 u1 u2 u3 u4 (Nat.lt_of_le_of_lt g4 (by decide)) k0 k1 k2 k3 k4
 obtain ⟨er1,hm1,w1,w2,w3,w4,g5⟩:=row_red e67 e68 e69 e70 e71 e72 e73 e74 e75 e76 e77 e78 e79 e80 e81 e82 e83 e84 e85 e86 e87 e88 e89 v0 v1 v2 v3 v4
 obtain ⟨ec1,b5⟩:=carry_two e90 g5 d4
 have ej1:=row_join er1 ea1 em1 ec1
 clear u1 u2 u3 u4 k0 k1 k2 k3 k4 v0 v1 v2 v3 v4 g5 d4 er1 ea1 em1 ec1
 have u1:=w1
 have u2:=w2
 have u3:=w3
 have u4:=w4
 clear w1 w2 w3 w4
 obtain ⟨em2,k0,k1,k2,k3,k4⟩:=row_mul wb2 wb0 wb1 wb2 wb3 e91 e92 e93 e94 e95 e96 e97 e98 e99 e100 e101 e102 e103 e104 e105
 obtain ⟨ea2,v0,v1,v2,v3,v4,d4⟩:=row_acc e106 e107 e108 e109 e110 e111 e112 e113 e114 e115 u1 u2 u3 u4 b5 k0 k1 k2 k3 k4
 obtain ⟨er2,hm2,w1,w2,w3,w4,g5⟩:=row_red e116 e117 e118 e119 e120 e121 e122 e123 e124 e125 e126 e127 e128 e129 e130 e131 e132 e133 e134 e135 e136 e137 e138 v0 v1 v2 v3 v4
 obtain ⟨ec2,b5⟩:=carry_two e139 g5 d4
 have ej2:=row_join er2 ea2 em2 ec2
 clear u1 u2 u3 u4 k0 k1 k2 k3 k4 v0 v1 v2 v3 v4 g5 d4 er2 ea2 em2 ec2
 have u1:=w1
 have u2:=w2
 have u3:=w3
 have u4:=w4
 clear w1 w2 w3 w4
 obtain ⟨em3,k0,k1,k2,k3,k4⟩:=row_mul wb3 wb0 wb1 wb2 wb3 e140 e141 e142 e143 e144 e145 e146 e147 e148 e149 e150 e151 e152 e153 e154
 obtain ⟨ea3,v0,v1,v2,v3,v4,d4⟩:=row_acc e155 e156 e157 e158 e159 e160 e161 e162 e163 e164 u1 u2 u3 u4 b5 k0 k1 k2 k3 k4
 obtain ⟨er3,hm3,w1,w2,w3,w4,g5⟩:=row_red e165 e166 e167 e168 e169 e170 e171 e172 e173 e174 e175 e176 e177 e178 e179 e180 e181 e182 e183 e184 e185 e186 e187 v0 v1 v2 v3 v4
 obtain ⟨ec3,b5⟩:=carry_two e188 g5 d4
 have ej3:=row_join er3 ea3 em3 ec3
 clear u1 u2 u3 u4 k0 k1 k2 k3 k4 v0 v1 v2 v3 v4 g5 d4 er3 ea3 em3 ec3
 have u1:=w1
 have u2:=w2
 have u3:=w3
 have u4:=w4
 clear w1 w2 w3 w4
 obtain ⟨hU,hT⟩:=mont_four er0 ej1 ej2 ej3 hm0 hm1 hm2 hm3 (prod_le' wb0 hB) (prod_le' wb1 hB) (prod_le' wb2 hB) (prod_le' wb3 hB)
 obtain ⟨hr,hlt,r0,r1,r2,r3⟩:=row_fin e189 e190 e191 e192 e193 e194 e195 e196 e197 e198 e199 e200 e201 e202 u1 u2 u3 u4 hU
 refine ⟨?_,hlt,r0,r1,r2,r3⟩
 rw [four_mul (s 0)]
 exact mont_fin hr hT
end P224
/- PRINTED BY A PROGRAM OF MY OWN (gen/rest.py): the other functions of words: what the executor lists of them, and what it comes to. -/
namespace P224
open Go
set_option maxRecDepth 100000
theorem shl_of {y x c:Nat} (h:y=x*c % 18446744073709551616) (hx:x<256) (hc:c≤72057594037927936):y=x*c:=by
 rw [h]
 refine Nat.mod_eq_of_lt (Nat.lt_of_le_of_lt (Nat.mul_le_mul (show x≤255 by omega) hc) (by decide))
theorem and_byte (a:Nat):a &&& 255=a % 256:=Nat.and_two_pow_sub_one_eq_mod a 8
def ex108:List Ex:=[
.sel (.v 25) (.v 22) (.v 14),
.sel (.v 25) (.v 20) (.v 12),
.sel (.v 25) (.v 18) (.v 10),
.sel (.v 25) (.v 16) (.v 8),
.subb (.v 15) (.c 0) (.v 23),
.subs (.v 15) (.c 0) (.v 23),
.subb (.v 14) (.c 4294967295) (.v 21),
.subs (.v 14) (.c 4294967295) (.v 21),
.subb (.v 12) (.c 18446744073709551615) (.v 19),
.subs (.v 12) (.c 18446744073709551615) (.v 19),
.subb (.v 10) (.c 18446744069414584320) (.v 17),
.subs (.v 10) (.c 18446744069414584320) (.v 17),
.subb (.v 8) (.c 1) (.c 0),
.subs (.v 8) (.c 1) (.c 0),
.addc (.v 3) (.v 7) (.v 13),
.adds (.v 3) (.v 7) (.v 13),
.addc (.v 2) (.v 6) (.v 11),
.adds (.v 2) (.v 6) (.v 11),
.addc (.v 1) (.v 5) (.v 9),
.adds (.v 1) (.v 5) (.v 9),
.addc (.v 0) (.v 4) (.c 0),
.adds (.v 0) (.v 4) (.c 0)]
theorem holds108 {s:Nums} (h:Holds s 30 ex108) (hA:s 0+18446744073709551616*s 1+340282366920938463463374607431768211456*s 2+6277101735386680763835789423207666416102355444464034512896*s 3<26959946667150639794667015087019630673557916260026308143510066298881) (hB:s 4+18446744073709551616*s 5+340282366920938463463374607431768211456*s 6+6277101735386680763835789423207666416102355444464034512896*s 7<26959946667150639794667015087019630673557916260026308143510066298881) :
  s 26+18446744073709551616*s 27+340282366920938463463374607431768211456*s 28+6277101735386680763835789423207666416102355444464034512896*s 29=((s 0+18446744073709551616*s 1+340282366920938463463374607431768211456*s 2+6277101735386680763835789423207666416102355444464034512896*s 3)+(s 4+18446744073709551616*s 5+340282366920938463463374607431768211456*s 6+6277101735386680763835789423207666416102355444464034512896*s 7)) % 26959946667150639794667015087019630673557916260026308143510066298881∧s 26<18446744073709551616∧s 27<18446744073709551616∧s 28<18446744073709551616∧s 29<18446744073709551616:=by
 have e8:s 8=(s 0+s 4+0) % 18446744073709551616:=h.at 21 8 (.adds (.v 0) (.v 4) (.c 0)) rfl rfl
 have e9:s 9=(s 0+s 4+0) / 18446744073709551616:=h.at 20 9 (.addc (.v 0) (.v 4) (.c 0)) rfl rfl
 have e10:s 10=(s 1+s 5+s 9) % 18446744073709551616:=h.at 19 10 (.adds (.v 1) (.v 5) (.v 9)) rfl rfl
 have e11:s 11=(s 1+s 5+s 9) / 18446744073709551616:=h.at 18 11 (.addc (.v 1) (.v 5) (.v 9)) rfl rfl
 have e12:s 12=(s 2+s 6+s 11) % 18446744073709551616:=h.at 17 12 (.adds (.v 2) (.v 6) (.v 11)) rfl rfl
 have e13:s 13=(s 2+s 6+s 11) / 18446744073709551616:=h.at 16 13 (.addc (.v 2) (.v 6) (.v 11)) rfl rfl
 have e14:s 14=(s 3+s 7+s 13) % 18446744073709551616:=h.at 15 14 (.adds (.v 3) (.v 7) (.v 13)) rfl rfl
 have e15:s 15=(s 3+s 7+s 13) / 18446744073709551616:=h.at 14 15 (.addc (.v 3) (.v 7) (.v 13)) rfl rfl
 have e16:s 16=(s 8+18446744073709551616 - 1 - 0) % 18446744073709551616:=h.at 13 16 (.subs (.v 8) (.c 1) (.c 0)) rfl rfl
 have e17:s 17=if s 8<1+0 then 1 else 0:=h.at 12 17 (.subb (.v 8) (.c 1) (.c 0)) rfl rfl
 have e18:s 18=(s 10+18446744073709551616 - 18446744069414584320 - s 17) % 18446744073709551616:=h.at 11 18 (.subs (.v 10) (.c 18446744069414584320) (.v 17)) rfl rfl
 have e19:s 19=if s 10<18446744069414584320+s 17 then 1 else 0:=h.at 10 19 (.subb (.v 10) (.c 18446744069414584320) (.v 17)) rfl rfl
 have e20:s 20=(s 12+18446744073709551616 - 18446744073709551615 - s 19) % 18446744073709551616:=h.at 9 20 (.subs (.v 12) (.c 18446744073709551615) (.v 19)) rfl rfl
 have e21:s 21=if s 12<18446744073709551615+s 19 then 1 else 0:=h.at 8 21 (.subb (.v 12) (.c 18446744073709551615) (.v 19)) rfl rfl
 have e22:s 22=(s 14+18446744073709551616 - 4294967295 - s 21) % 18446744073709551616:=h.at 7 22 (.subs (.v 14) (.c 4294967295) (.v 21)) rfl rfl
 have e23:s 23=if s 14<4294967295+s 21 then 1 else 0:=h.at 6 23 (.subb (.v 14) (.c 4294967295) (.v 21)) rfl rfl
 have e24:s 24=(s 15+18446744073709551616 - 0 - s 23) % 18446744073709551616:=h.at 5 24 (.subs (.v 15) (.c 0) (.v 23)) rfl rfl
 have e25:s 25=if s 15<0+s 23 then 1 else 0:=h.at 4 25 (.subb (.v 15) (.c 0) (.v 23)) rfl rfl
 have e26:s 26=if s 25=0 then s 16 else s 8:=h.at 3 26 (.sel (.v 25) (.v 16) (.v 8)) rfl rfl
 have e27:s 27=if s 25=0 then s 18 else s 10:=h.at 2 27 (.sel (.v 25) (.v 18) (.v 10)) rfl rfl
 have e28:s 28=if s 25=0 then s 20 else s 12:=h.at 1 28 (.sel (.v 25) (.v 20) (.v 12)) rfl rfl
 have e29:s 29=if s 25=0 then s 22 else s 14:=h.at 0 29 (.sel (.v 25) (.v 22) (.v 14)) rfl rfl
 clear h
 obtain ⟨h1,b1,b2,b3,b4,h2⟩:=add_words e8 e9 e10 e11 e12 e13 e14 e15 hA hB
 obtain ⟨hr,hlt,r⟩:=row_fin e16 e17 e18 e19 e20 e21 e22 e23 e24 e25 e26 e27 e28 e29 b1 b2 b3 b4 h2
 rw [h1] at hr
 exact ⟨fin_mod hr hlt,r⟩
def ex109:List Ex:=[
.addc (.v 14) (.v 25) (.v 24),
.adds (.v 14) (.v 25) (.v 24),
.and (.v 16) (.c 4294967295),
.addc (.v 12) (.v 16) (.v 22),
.adds (.v 12) (.v 16) (.v 22),
.addc (.v 10) (.v 20) (.v 19),
.adds (.v 10) (.v 20) (.v 19),
.and (.v 16) (.c 18446744069414584320),
.addc (.v 8) (.v 17) (.c 0),
.adds (.v 8) (.v 17) (.c 0),
.and (.v 16) (.c 1),
.sel (.v 15) (.c 0) (.c 18446744073709551615),
.subb (.v 3) (.v 7) (.v 13),
.subs (.v 3) (.v 7) (.v 13),
.subb (.v 2) (.v 6) (.v 11),
.subs (.v 2) (.v 6) (.v 11),
.subb (.v 1) (.v 5) (.v 9),
.subs (.v 1) (.v 5) (.v 9),
.subb (.v 0) (.v 4) (.c 0),
.subs (.v 0) (.v 4) (.c 0)]
theorem holds109 {s:Nums} (h:Holds s 28 ex109) (wb0:s 0<18446744073709551616) (wb1:s 1<18446744073709551616) (wb2:s 2<18446744073709551616) (wb3:s 3<18446744073709551616) (wb4:s 4<18446744073709551616) (wb5:s 5<18446744073709551616) (wb6:s 6<18446744073709551616) (wb7:s 7<18446744073709551616) (hA:s 0+18446744073709551616*s 1+340282366920938463463374607431768211456*s 2+6277101735386680763835789423207666416102355444464034512896*s 3<26959946667150639794667015087019630673557916260026308143510066298881) (hB:s 4+18446744073709551616*s 5+340282366920938463463374607431768211456*s 6+6277101735386680763835789423207666416102355444464034512896*s 7<26959946667150639794667015087019630673557916260026308143510066298881) :
  s 18+18446744073709551616*s 21+340282366920938463463374607431768211456*s 23+6277101735386680763835789423207666416102355444464034512896*s 26=((s 0+18446744073709551616*s 1+340282366920938463463374607431768211456*s 2+6277101735386680763835789423207666416102355444464034512896*s 3)+(26959946667150639794667015087019630673557916260026308143510066298881 - (s 4+18446744073709551616*s 5+340282366920938463463374607431768211456*s 6+6277101735386680763835789423207666416102355444464034512896*s 7))) % 26959946667150639794667015087019630673557916260026308143510066298881∧s 18<18446744073709551616∧s 21<18446744073709551616∧s 23<18446744073709551616∧s 26<18446744073709551616:=by
 have e8:s 8=(s 0+18446744073709551616 - s 4 - 0) % 18446744073709551616:=h.at 19 8 (.subs (.v 0) (.v 4) (.c 0)) rfl rfl
 have e9:s 9=if s 0<s 4+0 then 1 else 0:=h.at 18 9 (.subb (.v 0) (.v 4) (.c 0)) rfl rfl
 have e10:s 10=(s 1+18446744073709551616 - s 5 - s 9) % 18446744073709551616:=h.at 17 10 (.subs (.v 1) (.v 5) (.v 9)) rfl rfl
 have e11:s 11=if s 1<s 5+s 9 then 1 else 0:=h.at 16 11 (.subb (.v 1) (.v 5) (.v 9)) rfl rfl
 have e12:s 12=(s 2+18446744073709551616 - s 6 - s 11) % 18446744073709551616:=h.at 15 12 (.subs (.v 2) (.v 6) (.v 11)) rfl rfl
 have e13:s 13=if s 2<s 6+s 11 then 1 else 0:=h.at 14 13 (.subb (.v 2) (.v 6) (.v 11)) rfl rfl
 have e14:s 14=(s 3+18446744073709551616 - s 7 - s 13) % 18446744073709551616:=h.at 13 14 (.subs (.v 3) (.v 7) (.v 13)) rfl rfl
 have e15:s 15=if s 3<s 7+s 13 then 1 else 0:=h.at 12 15 (.subb (.v 3) (.v 7) (.v 13)) rfl rfl
 have e16:s 16=if s 15=0 then 0 else 18446744073709551615:=h.at 11 16 (.sel (.v 15) (.c 0) (.c 18446744073709551615)) rfl rfl
 have e17:s 17=s 16 &&& 1:=h.at 10 17 (.and (.v 16) (.c 1)) rfl rfl
 have e18:s 18=(s 8+s 17+0) % 18446744073709551616:=h.at 9 18 (.adds (.v 8) (.v 17) (.c 0)) rfl rfl
 have e19:s 19=(s 8+s 17+0) / 18446744073709551616:=h.at 8 19 (.addc (.v 8) (.v 17) (.c 0)) rfl rfl
 have e20:s 20=s 16 &&& 18446744069414584320:=h.at 7 20 (.and (.v 16) (.c 18446744069414584320)) rfl rfl
 have e21:s 21=(s 10+s 20+s 19) % 18446744073709551616:=h.at 6 21 (.adds (.v 10) (.v 20) (.v 19)) rfl rfl
 have e22:s 22=(s 10+s 20+s 19) / 18446744073709551616:=h.at 5 22 (.addc (.v 10) (.v 20) (.v 19)) rfl rfl
 have e23:s 23=(s 12+s 16+s 22) % 18446744073709551616:=h.at 4 23 (.adds (.v 12) (.v 16) (.v 22)) rfl rfl
 have e24:s 24=(s 12+s 16+s 22) / 18446744073709551616:=h.at 3 24 (.addc (.v 12) (.v 16) (.v 22)) rfl rfl
 have e25:s 25=s 16 &&& 4294967295:=h.at 2 25 (.and (.v 16) (.c 4294967295)) rfl rfl
 have e26:s 26=(s 14+s 25+s 24) % 18446744073709551616:=h.at 1 26 (.adds (.v 14) (.v 25) (.v 24)) rfl rfl
 have e27:s 27=(s 14+s 25+s 24) / 18446744073709551616:=h.at 0 27 (.addc (.v 14) (.v 25) (.v 24)) rfl rfl
 clear h
 exact sub_words e8 e9 e10 e11 e12 e13 e14 e15 e16 e17 e18 e19 e20 e21 e22 e23 e24 e25 e26 e27 wb0 wb1 wb2 wb3 wb4 wb5 wb6 wb7 hA hB
def ex123:List Ex:=[
.sel (.v 122) (.v 119) (.v 112),
.sel (.v 122) (.v 117) (.v 109),
.sel (.v 122) (.v 115) (.v 104),
.sel (.v 122) (.v 113) (.v 102),
.subb (.c 0) (.c 0) (.v 120),
.subs (.c 0) (.c 0) (.v 120),
.subb (.v 112) (.c 4294967295) (.v 118),
.subs (.v 112) (.c 4294967295) (.v 118),
.subb (.v 109) (.c 18446744073709551615) (.v 116),
.subs (.v 109) (.c 18446744073709551615) (.v 116),
.subb (.v 104) (.c 18446744069414584320) (.v 114),
.subs (.v 104) (.c 18446744069414584320) (.v 114),
.subb (.v 102) (.c 1) (.c 0),
.subs (.v 102) (.c 1) (.c 0),
.add 64 (.v 110) (.v 111),
.add 64 (.v 99) (.v 90),
.addc (.v 108) (.v 98) (.v 105),
.adds (.v 108) (.v 98) (.v 105),
.add 64 (.v 87) (.v 107),
.add 64 (.v 81) (.v 106),
.add 64 (.v 70) (.v 61),
.addc (.v 86) (.v 96) (.v 103),
.adds (.v 86) (.v 96) (.v 103),
.addc (.v 84) (.v 95) (.v 101),
.adds (.v 84) (.v 95) (.v 101),
.addc (.v 82) (.v 89) (.c 0),
.adds (.v 82) (.v 89) (.c 0),
.addc (.v 92) (.v 91) (.v 97),
.adds (.v 92) (.v 91) (.v 97),
.addc (.v 94) (.v 93) (.c 0),
.adds (.v 94) (.v 93) (.c 0),
.mull (.v 89) (.c 18446744069414584320),
.mulh (.v 89) (.c 18446744069414584320),
.mull (.v 89) (.c 18446744073709551615),
.mulh (.v 89) (.c 18446744073709551615),
.mull (.v 89) (.c 4294967295),
.mulh (.v 89) (.c 4294967295),
.mull (.v 82) (.c 18446744073709551615),
.mulh (.v 82) (.c 18446744073709551615),
.addc (.v 80) (.c 0) (.v 85),
.adds (.v 80) (.c 0) (.v 85),
.addc (.v 75) (.c 0) (.v 83),
.adds (.v 75) (.c 0) (.v 83),
.addc (.v 73) (.v 3) (.c 0),
.adds (.v 73) (.v 3) (.c 0),
.addc (.v 79) (.v 69) (.v 76),
.adds (.v 79) (.v 69) (.v 76),
.add 64 (.v 58) (.v 78),
.add 64 (.v 52) (.v 77),
.add 64 (.v 41) (.v 32),
.addc (.v 57) (.v 67) (.v 74),
.adds (.v 57) (.v 67) (.v 74),
.addc (.v 55) (.v 66) (.v 72),
.adds (.v 55) (.v 66) (.v 72),
.addc (.v 53) (.v 60) (.c 0),
.adds (.v 53) (.v 60) (.c 0),
.addc (.v 63) (.v 62) (.v 68),
.adds (.v 63) (.v 62) (.v 68),
.addc (.v 65) (.v 64) (.c 0),
.adds (.v 65) (.v 64) (.c 0),
.mull (.v 60) (.c 18446744069414584320),
.mulh (.v 60) (.c 18446744069414584320),
.mull (.v 60) (.c 18446744073709551615),
.mulh (.v 60) (.c 18446744073709551615),
.mull (.v 60) (.c 4294967295),
.mulh (.v 60) (.c 4294967295),
.mull (.v 53) (.c 18446744073709551615),
.mulh (.v 53) (.c 18446744073709551615),
.addc (.v 51) (.c 0) (.v 56),
.adds (.v 51) (.c 0) (.v 56),
.addc (.v 46) (.c 0) (.v 54),
.adds (.v 46) (.c 0) (.v 54),
.addc (.v 44) (.v 2) (.c 0),
.adds (.v 44) (.v 2) (.c 0),
.addc (.v 50) (.v 40) (.v 47),
.adds (.v 50) (.v 40) (.v 47),
.add 64 (.v 29) (.v 49),
.add 64 (.v 23) (.v 48),
.add 64 (.v 15) (.v 6),
.addc (.v 28) (.v 38) (.v 45),
.adds (.v 28) (.v 38) (.v 45),
.addc (.v 26) (.v 37) (.v 43),
.adds (.v 26) (.v 37) (.v 43),
.addc (.v 24) (.v 31) (.c 0),
.adds (.v 24) (.v 31) (.c 0),
.addc (.v 34) (.v 33) (.v 39),
.adds (.v 34) (.v 33) (.v 39),
.addc (.v 36) (.v 35) (.c 0),
.adds (.v 36) (.v 35) (.c 0),
.mull (.v 31) (.c 18446744069414584320),
.mulh (.v 31) (.c 18446744069414584320),
.mull (.v 31) (.c 18446744073709551615),
.mulh (.v 31) (.c 18446744073709551615),
.mull (.v 31) (.c 4294967295),
.mulh (.v 31) (.c 4294967295),
.mull (.v 24) (.c 18446744073709551615),
.mulh (.v 24) (.c 18446744073709551615),
.addc (.v 22) (.c 0) (.v 27),
.adds (.v 22) (.c 0) (.v 27),
.addc (.v 20) (.c 0) (.v 25),
.adds (.v 20) (.c 0) (.v 25),
.addc (.v 18) (.v 1) (.c 0),
.adds (.v 18) (.v 1) (.c 0),
.addc (.c 0) (.v 14) (.v 21),
.adds (.c 0) (.v 14) (.v 21),
.addc (.c 0) (.v 12) (.v 19),
.adds (.c 0) (.v 12) (.v 19),
.addc (.c 0) (.v 11) (.v 17),
.adds (.c 0) (.v 11) (.v 17),
.addc (.v 0) (.v 5) (.c 0),
.adds (.v 0) (.v 5) (.c 0),
.addc (.v 8) (.v 7) (.v 13),
.adds (.v 8) (.v 7) (.v 13),
.addc (.v 10) (.v 9) (.c 0),
.adds (.v 10) (.v 9) (.c 0),
.mull (.v 5) (.c 18446744069414584320),
.mulh (.v 5) (.c 18446744069414584320),
.mull (.v 5) (.c 18446744073709551615),
.mulh (.v 5) (.c 18446744073709551615),
.mull (.v 5) (.c 4294967295),
.mulh (.v 5) (.c 4294967295),
.mull (.v 0) (.c 18446744073709551615),
.mulh (.v 0) (.c 18446744073709551615)]
theorem holds123 {s:Nums} (h:Holds s 127 ex123) (wb0:s 0<18446744073709551616) (wb1:s 1<18446744073709551616) (wb2:s 2<18446744073709551616) (wb3:s 3<18446744073709551616) :
  (s 123+18446744073709551616*s 124+340282366920938463463374607431768211456*s 125+6277101735386680763835789423207666416102355444464034512896*s 126)*115792089237316195423570985008687907853269984665640564039457584007913129639936 % 26959946667150639794667015087019630673557916260026308143510066298881=(s 0+18446744073709551616*s 1+340282366920938463463374607431768211456*s 2+6277101735386680763835789423207666416102355444464034512896*s 3) % 26959946667150639794667015087019630673557916260026308143510066298881∧s 123+18446744073709551616*s 124+340282366920938463463374607431768211456*s 125+6277101735386680763835789423207666416102355444464034512896*s 126<26959946667150639794667015087019630673557916260026308143510066298881∧s 123<18446744073709551616∧s 124<18446744073709551616∧s 125<18446744073709551616∧s 126<18446744073709551616:=by
 have e4:s 4=s 0*18446744073709551615 / 18446744073709551616:=h.at 122 4 (.mulh (.v 0) (.c 18446744073709551615)) rfl rfl
 have e5:s 5=s 0*18446744073709551615 % 18446744073709551616:=h.at 121 5 (.mull (.v 0) (.c 18446744073709551615)) rfl rfl
 have e6:s 6=s 5*4294967295 / 18446744073709551616:=h.at 120 6 (.mulh (.v 5) (.c 4294967295)) rfl rfl
 have e7:s 7=s 5*4294967295 % 18446744073709551616:=h.at 119 7 (.mull (.v 5) (.c 4294967295)) rfl rfl
 have e8:s 8=s 5*18446744073709551615 / 18446744073709551616:=h.at 118 8 (.mulh (.v 5) (.c 18446744073709551615)) rfl rfl
 have e9:s 9=s 5*18446744073709551615 % 18446744073709551616:=h.at 117 9 (.mull (.v 5) (.c 18446744073709551615)) rfl rfl
 have e10:s 10=s 5*18446744069414584320 / 18446744073709551616:=h.at 116 10 (.mulh (.v 5) (.c 18446744069414584320)) rfl rfl
 have e11:s 11=s 5*18446744069414584320 % 18446744073709551616:=h.at 115 11 (.mull (.v 5) (.c 18446744069414584320)) rfl rfl
 have e12:s 12=(s 10+s 9+0) % 18446744073709551616:=h.at 114 12 (.adds (.v 10) (.v 9) (.c 0)) rfl rfl
 have e13:s 13=(s 10+s 9+0) / 18446744073709551616:=h.at 113 13 (.addc (.v 10) (.v 9) (.c 0)) rfl rfl
 have e14:s 14=(s 8+s 7+s 13) % 18446744073709551616:=h.at 112 14 (.adds (.v 8) (.v 7) (.v 13)) rfl rfl
 have e15:s 15=(s 8+s 7+s 13) / 18446744073709551616:=h.at 111 15 (.addc (.v 8) (.v 7) (.v 13)) rfl rfl
 have e16:s 16=(s 0+s 5+0) % 18446744073709551616:=h.at 110 16 (.adds (.v 0) (.v 5) (.c 0)) rfl rfl
 have e17:s 17=(s 0+s 5+0) / 18446744073709551616:=h.at 109 17 (.addc (.v 0) (.v 5) (.c 0)) rfl rfl
 have e18:s 18=(0+s 11+s 17) % 18446744073709551616:=h.at 108 18 (.adds (.c 0) (.v 11) (.v 17)) rfl rfl
 have e19:s 19=(0+s 11+s 17) / 18446744073709551616:=h.at 107 19 (.addc (.c 0) (.v 11) (.v 17)) rfl rfl
 have e20:s 20=(0+s 12+s 19) % 18446744073709551616:=h.at 106 20 (.adds (.c 0) (.v 12) (.v 19)) rfl rfl
 have e21:s 21=(0+s 12+s 19) / 18446744073709551616:=h.at 105 21 (.addc (.c 0) (.v 12) (.v 19)) rfl rfl
 have e22:s 22=(0+s 14+s 21) % 18446744073709551616:=h.at 104 22 (.adds (.c 0) (.v 14) (.v 21)) rfl rfl
 have e23:s 23=(0+s 14+s 21) / 18446744073709551616:=h.at 103 23 (.addc (.c 0) (.v 14) (.v 21)) rfl rfl
 have e24:s 24=(s 18+s 1+0) % 18446744073709551616:=h.at 102 24 (.adds (.v 18) (.v 1) (.c 0)) rfl rfl
 have e25:s 25=(s 18+s 1+0) / 18446744073709551616:=h.at 101 25 (.addc (.v 18) (.v 1) (.c 0)) rfl rfl
 have e26:s 26=(s 20+0+s 25) % 18446744073709551616:=h.at 100 26 (.adds (.v 20) (.c 0) (.v 25)) rfl rfl
 have e27:s 27=(s 20+0+s 25) / 18446744073709551616:=h.at 99 27 (.addc (.v 20) (.c 0) (.v 25)) rfl rfl
 have e28:s 28=(s 22+0+s 27) % 18446744073709551616:=h.at 98 28 (.adds (.v 22) (.c 0) (.v 27)) rfl rfl
 have e29:s 29=(s 22+0+s 27) / 18446744073709551616:=h.at 97 29 (.addc (.v 22) (.c 0) (.v 27)) rfl rfl
 have e30:s 30=s 24*18446744073709551615 / 18446744073709551616:=h.at 96 30 (.mulh (.v 24) (.c 18446744073709551615)) rfl rfl
 have e31:s 31=s 24*18446744073709551615 % 18446744073709551616:=h.at 95 31 (.mull (.v 24) (.c 18446744073709551615)) rfl rfl
 have e32:s 32=s 31*4294967295 / 18446744073709551616:=h.at 94 32 (.mulh (.v 31) (.c 4294967295)) rfl rfl
 have e33:s 33=s 31*4294967295 % 18446744073709551616:=h.at 93 33 (.mull (.v 31) (.c 4294967295)) rfl rfl
 have e34:s 34=s 31*18446744073709551615 / 18446744073709551616:=h.at 92 34 (.mulh (.v 31) (.c 18446744073709551615)) rfl rfl
 have e35:s 35=s 31*18446744073709551615 % 18446744073709551616:=h.at 91 35 (.mull (.v 31) (.c 18446744073709551615)) rfl rfl
 have e36:s 36=s 31*18446744069414584320 / 18446744073709551616:=h.at 90 36 (.mulh (.v 31) (.c 18446744069414584320)) rfl rfl
 have e37:s 37=s 31*18446744069414584320 % 18446744073709551616:=h.at 89 37 (.mull (.v 31) (.c 18446744069414584320)) rfl rfl
 have e38:s 38=(s 36+s 35+0) % 18446744073709551616:=h.at 88 38 (.adds (.v 36) (.v 35) (.c 0)) rfl rfl
 have e39:s 39=(s 36+s 35+0) / 18446744073709551616:=h.at 87 39 (.addc (.v 36) (.v 35) (.c 0)) rfl rfl
 have e40:s 40=(s 34+s 33+s 39) % 18446744073709551616:=h.at 86 40 (.adds (.v 34) (.v 33) (.v 39)) rfl rfl
 have e41:s 41=(s 34+s 33+s 39) / 18446744073709551616:=h.at 85 41 (.addc (.v 34) (.v 33) (.v 39)) rfl rfl
 have e42:s 42=(s 24+s 31+0) % 18446744073709551616:=h.at 84 42 (.adds (.v 24) (.v 31) (.c 0)) rfl rfl
 have e43:s 43=(s 24+s 31+0) / 18446744073709551616:=h.at 83 43 (.addc (.v 24) (.v 31) (.c 0)) rfl rfl
 have e44:s 44=(s 26+s 37+s 43) % 18446744073709551616:=h.at 82 44 (.adds (.v 26) (.v 37) (.v 43)) rfl rfl
 have e45:s 45=(s 26+s 37+s 43) / 18446744073709551616:=h.at 81 45 (.addc (.v 26) (.v 37) (.v 43)) rfl rfl
 have e46:s 46=(s 28+s 38+s 45) % 18446744073709551616:=h.at 80 46 (.adds (.v 28) (.v 38) (.v 45)) rfl rfl
 have e47:s 47=(s 28+s 38+s 45) / 18446744073709551616:=h.at 79 47 (.addc (.v 28) (.v 38) (.v 45)) rfl rfl
 have e48:s 48=(s 15+s 6) % 18446744073709551616:=h.at 78 48 (.add 64 (.v 15) (.v 6)) rfl rfl
 have e49:s 49=(s 23+s 48) % 18446744073709551616:=h.at 77 49 (.add 64 (.v 23) (.v 48)) rfl rfl
 have e50:s 50=(s 29+s 49) % 18446744073709551616:=h.at 76 50 (.add 64 (.v 29) (.v 49)) rfl rfl
 have e51:s 51=(s 50+s 40+s 47) % 18446744073709551616:=h.at 75 51 (.adds (.v 50) (.v 40) (.v 47)) rfl rfl
 have e52:s 52=(s 50+s 40+s 47) / 18446744073709551616:=h.at 74 52 (.addc (.v 50) (.v 40) (.v 47)) rfl rfl
 have e53:s 53=(s 44+s 2+0) % 18446744073709551616:=h.at 73 53 (.adds (.v 44) (.v 2) (.c 0)) rfl rfl
 have e54:s 54=(s 44+s 2+0) / 18446744073709551616:=h.at 72 54 (.addc (.v 44) (.v 2) (.c 0)) rfl rfl
 have e55:s 55=(s 46+0+s 54) % 18446744073709551616:=h.at 71 55 (.adds (.v 46) (.c 0) (.v 54)) rfl rfl
 have e56:s 56=(s 46+0+s 54) / 18446744073709551616:=h.at 70 56 (.addc (.v 46) (.c 0) (.v 54)) rfl rfl
 have e57:s 57=(s 51+0+s 56) % 18446744073709551616:=h.at 69 57 (.adds (.v 51) (.c 0) (.v 56)) rfl rfl
 have e58:s 58=(s 51+0+s 56) / 18446744073709551616:=h.at 68 58 (.addc (.v 51) (.c 0) (.v 56)) rfl rfl
 have e59:s 59=s 53*18446744073709551615 / 18446744073709551616:=h.at 67 59 (.mulh (.v 53) (.c 18446744073709551615)) rfl rfl
 have e60:s 60=s 53*18446744073709551615 % 18446744073709551616:=h.at 66 60 (.mull (.v 53) (.c 18446744073709551615)) rfl rfl
 have e61:s 61=s 60*4294967295 / 18446744073709551616:=h.at 65 61 (.mulh (.v 60) (.c 4294967295)) rfl rfl
 have e62:s 62=s 60*4294967295 % 18446744073709551616:=h.at 64 62 (.mull (.v 60) (.c 4294967295)) rfl rfl
 have e63:s 63=s 60*18446744073709551615 / 18446744073709551616:=h.at 63 63 (.mulh (.v 60) (.c 18446744073709551615)) rfl rfl
 have e64:s 64=s 60*18446744073709551615 % 18446744073709551616:=h.at 62 64 (.mull (.v 60) (.c 18446744073709551615)) rfl rfl
 have e65:s 65=s 60*18446744069414584320 / 18446744073709551616:=h.at 61 65 (.mulh (.v 60) (.c 18446744069414584320)) rfl rfl
 have e66:s 66=s 60*18446744069414584320 % 18446744073709551616:=h.at 60 66 (.mull (.v 60) (.c 18446744069414584320)) rfl rfl
 have e67:s 67=(s 65+s 64+0) % 18446744073709551616:=h.at 59 67 (.adds (.v 65) (.v 64) (.c 0)) rfl rfl
 have e68:s 68=(s 65+s 64+0) / 18446744073709551616:=h.at 58 68 (.addc (.v 65) (.v 64) (.c 0)) rfl rfl
 have e69:s 69=(s 63+s 62+s 68) % 18446744073709551616:=h.at 57 69 (.adds (.v 63) (.v 62) (.v 68)) rfl rfl
 have e70:s 70=(s 63+s 62+s 68) / 18446744073709551616:=h.at 56 70 (.addc (.v 63) (.v 62) (.v 68)) rfl rfl
 have e71:s 71=(s 53+s 60+0) % 18446744073709551616:=h.at 55 71 (.adds (.v 53) (.v 60) (.c 0)) rfl rfl
 have e72:s 72=(s 53+s 60+0) / 18446744073709551616:=h.at 54 72 (.addc (.v 53) (.v 60) (.c 0)) rfl rfl
 have e73:s 73=(s 55+s 66+s 72) % 18446744073709551616:=h.at 53 73 (.adds (.v 55) (.v 66) (.v 72)) rfl rfl
 have e74:s 74=(s 55+s 66+s 72) / 18446744073709551616:=h.at 52 74 (.addc (.v 55) (.v 66) (.v 72)) rfl rfl
 have e75:s 75=(s 57+s 67+s 74) % 18446744073709551616:=h.at 51 75 (.adds (.v 57) (.v 67) (.v 74)) rfl rfl
 have e76:s 76=(s 57+s 67+s 74) / 18446744073709551616:=h.at 50 76 (.addc (.v 57) (.v 67) (.v 74)) rfl rfl
 have e77:s 77=(s 41+s 32) % 18446744073709551616:=h.at 49 77 (.add 64 (.v 41) (.v 32)) rfl rfl
 have e78:s 78=(s 52+s 77) % 18446744073709551616:=h.at 48 78 (.add 64 (.v 52) (.v 77)) rfl rfl
 have e79:s 79=(s 58+s 78) % 18446744073709551616:=h.at 47 79 (.add 64 (.v 58) (.v 78)) rfl rfl
 have e80:s 80=(s 79+s 69+s 76) % 18446744073709551616:=h.at 46 80 (.adds (.v 79) (.v 69) (.v 76)) rfl rfl
 have e81:s 81=(s 79+s 69+s 76) / 18446744073709551616:=h.at 45 81 (.addc (.v 79) (.v 69) (.v 76)) rfl rfl
 have e82:s 82=(s 73+s 3+0) % 18446744073709551616:=h.at 44 82 (.adds (.v 73) (.v 3) (.c 0)) rfl rfl
 have e83:s 83=(s 73+s 3+0) / 18446744073709551616:=h.at 43 83 (.addc (.v 73) (.v 3) (.c 0)) rfl rfl
 have e84:s 84=(s 75+0+s 83) % 18446744073709551616:=h.at 42 84 (.adds (.v 75) (.c 0) (.v 83)) rfl rfl
 have e85:s 85=(s 75+0+s 83) / 18446744073709551616:=h.at 41 85 (.addc (.v 75) (.c 0) (.v 83)) rfl rfl
 have e86:s 86=(s 80+0+s 85) % 18446744073709551616:=h.at 40 86 (.adds (.v 80) (.c 0) (.v 85)) rfl rfl
 have e87:s 87=(s 80+0+s 85) / 18446744073709551616:=h.at 39 87 (.addc (.v 80) (.c 0) (.v 85)) rfl rfl
 have e88:s 88=s 82*18446744073709551615 / 18446744073709551616:=h.at 38 88 (.mulh (.v 82) (.c 18446744073709551615)) rfl rfl
 have e89:s 89=s 82*18446744073709551615 % 18446744073709551616:=h.at 37 89 (.mull (.v 82) (.c 18446744073709551615)) rfl rfl
 have e90:s 90=s 89*4294967295 / 18446744073709551616:=h.at 36 90 (.mulh (.v 89) (.c 4294967295)) rfl rfl
 have e91:s 91=s 89*4294967295 % 18446744073709551616:=h.at 35 91 (.mull (.v 89) (.c 4294967295)) rfl rfl
 have e92:s 92=s 89*18446744073709551615 / 18446744073709551616:=h.at 34 92 (.mulh (.v 89) (.c 18446744073709551615)) rfl rfl
 have e93:s 93=s 89*18446744073709551615 % 18446744073709551616:=h.at 33 93 (.mull (.v 89) (.c 18446744073709551615)) rfl rfl
 have e94:s 94=s 89*18446744069414584320 / 18446744073709551616:=h.at 32 94 (.mulh (.v 89) (.c 18446744069414584320)) rfl rfl
 have e95:s 95=s 89*18446744069414584320 % 18446744073709551616:=h.at 31 95 (.mull (.v 89) (.c 18446744069414584320)) rfl rfl
 have e96:s 96=(s 94+s 93+0) % 18446744073709551616:=h.at 30 96 (.adds (.v 94) (.v 93) (.c 0)) rfl rfl
 have e97:s 97=(s 94+s 93+0) / 18446744073709551616:=h.at 29 97 (.addc (.v 94) (.v 93) (.c 0)) rfl rfl
 have e98:s 98=(s 92+s 91+s 97) % 18446744073709551616:=h.at 28 98 (.adds (.v 92) (.v 91) (.v 97)) rfl rfl
 have e99:s 99=(s 92+s 91+s 97) / 18446744073709551616:=h.at 27 99 (.addc (.v 92) (.v 91) (.v 97)) rfl rfl
 have e100:s 100=(s 82+s 89+0) % 18446744073709551616:=h.at 26 100 (.adds (.v 82) (.v 89) (.c 0)) rfl rfl
 have e101:s 101=(s 82+s 89+0) / 18446744073709551616:=h.at 25 101 (.addc (.v 82) (.v 89) (.c 0)) rfl rfl
 have e102:s 102=(s 84+s 95+s 101) % 18446744073709551616:=h.at 24 102 (.adds (.v 84) (.v 95) (.v 101)) rfl rfl
 have e103:s 103=(s 84+s 95+s 101) / 18446744073709551616:=h.at 23 103 (.addc (.v 84) (.v 95) (.v 101)) rfl rfl
 have e104:s 104=(s 86+s 96+s 103) % 18446744073709551616:=h.at 22 104 (.adds (.v 86) (.v 96) (.v 103)) rfl rfl
 have e105:s 105=(s 86+s 96+s 103) / 18446744073709551616:=h.at 21 105 (.addc (.v 86) (.v 96) (.v 103)) rfl rfl
 have e106:s 106=(s 70+s 61) % 18446744073709551616:=h.at 20 106 (.add 64 (.v 70) (.v 61)) rfl rfl
 have e107:s 107=(s 81+s 106) % 18446744073709551616:=h.at 19 107 (.add 64 (.v 81) (.v 106)) rfl rfl
 have e108:s 108=(s 87+s 107) % 18446744073709551616:=h.at 18 108 (.add 64 (.v 87) (.v 107)) rfl rfl
 have e109:s 109=(s 108+s 98+s 105) % 18446744073709551616:=h.at 17 109 (.adds (.v 108) (.v 98) (.v 105)) rfl rfl
 have e110:s 110=(s 108+s 98+s 105) / 18446744073709551616:=h.at 16 110 (.addc (.v 108) (.v 98) (.v 105)) rfl rfl
 have e111:s 111=(s 99+s 90) % 18446744073709551616:=h.at 15 111 (.add 64 (.v 99) (.v 90)) rfl rfl
 have e112:s 112=(s 110+s 111) % 18446744073709551616:=h.at 14 112 (.add 64 (.v 110) (.v 111)) rfl rfl
 have e113:s 113=(s 102+18446744073709551616 - 1 - 0) % 18446744073709551616:=h.at 13 113 (.subs (.v 102) (.c 1) (.c 0)) rfl rfl
 have e114:s 114=if s 102<1+0 then 1 else 0:=h.at 12 114 (.subb (.v 102) (.c 1) (.c 0)) rfl rfl
 have e115:s 115=(s 104+18446744073709551616 - 18446744069414584320 - s 114) % 18446744073709551616:=h.at 11 115 (.subs (.v 104) (.c 18446744069414584320) (.v 114)) rfl rfl
 have e116:s 116=if s 104<18446744069414584320+s 114 then 1 else 0:=h.at 10 116 (.subb (.v 104) (.c 18446744069414584320) (.v 114)) rfl rfl
 have e117:s 117=(s 109+18446744073709551616 - 18446744073709551615 - s 116) % 18446744073709551616:=h.at 9 117 (.subs (.v 109) (.c 18446744073709551615) (.v 116)) rfl rfl
 have e118:s 118=if s 109<18446744073709551615+s 116 then 1 else 0:=h.at 8 118 (.subb (.v 109) (.c 18446744073709551615) (.v 116)) rfl rfl
 have e119:s 119=(s 112+18446744073709551616 - 4294967295 - s 118) % 18446744073709551616:=h.at 7 119 (.subs (.v 112) (.c 4294967295) (.v 118)) rfl rfl
 have e120:s 120=if s 112<4294967295+s 118 then 1 else 0:=h.at 6 120 (.subb (.v 112) (.c 4294967295) (.v 118)) rfl rfl
 have e121:s 121=(0+18446744073709551616 - 0 - s 120) % 18446744073709551616:=h.at 5 121 (.subs (.c 0) (.c 0) (.v 120)) rfl rfl
 have e122:s 122=if 0<0+s 120 then 1 else 0:=h.at 4 122 (.subb (.c 0) (.c 0) (.v 120)) rfl rfl
 have e123:s 123=if s 122=0 then s 113 else s 102:=h.at 3 123 (.sel (.v 122) (.v 113) (.v 102)) rfl rfl
 have e124:s 124=if s 122=0 then s 115 else s 104:=h.at 2 124 (.sel (.v 122) (.v 115) (.v 104)) rfl rfl
 have e125:s 125=if s 122=0 then s 117 else s 109:=h.at 1 125 (.sel (.v 122) (.v 117) (.v 109)) rfl rfl
 have e126:s 126=if s 122=0 then s 119 else s 112:=h.at 0 126 (.sel (.v 122) (.v 119) (.v 112)) rfl rfl
 clear h
 have z0:0<18446744073709551616:=by decide
 obtain ⟨t1,m1,u1,u2,u3,g,k,a⟩:=fm_row (t1:=0) (t2:=0) (t3:=0) e4 e5 e6 e7 e8 e9 e10 e11 e12 e13 e14 e15 e16 e17 e18 e19 e20 e21 e22 e23 wb0 z0 z0 z0
 obtain ⟨A1,v1,v2,v3,v4⟩:=fm_add (top:=s 23+s 15+s 6) e24 e25 e26 e27 e28 e29 u1 u2 u3 wb1 (fun hc=>top_fm0 e48 e49 g k a _ hc e50) (three_small g k a)
 obtain ⟨t2,m2,p1,p2,p3,g2,k2,a2⟩:=fm_row e30 e31 e32 e33 e34 e35 e36 e37 e38 e39 e40 e41 e42 e43 e44 e45 e46 e47 e51 e52 v1 v2 v3 v4
 obtain ⟨A2,w1,w2,w3,w4⟩:=fm_add (top:=s 52+s 41+s 32) e53 e54 e55 e56 e57 e58 p1 p2 p3 wb2 (fun hc=>top_fm0 e77 e78 g2 k2 a2 _ hc e79) (three_small g2 k2 a2)
 obtain ⟨t3,m3,q1,q2,q3,g3,k3,a3⟩:=fm_row e59 e60 e61 e62 e63 e64 e65 e66 e67 e68 e69 e70 e71 e72 e73 e74 e75 e76 e80 e81 w1 w2 w3 w4
 obtain ⟨A3,x1,x2,x3,x4⟩:=fm_add (top:=s 81+s 70+s 61) e82 e83 e84 e85 e86 e87 q1 q2 q3 wb3 (fun hc=>top_fm0 e106 e107 g3 k3 a3 _ hc e108) (three_small g3 k3 a3)
 obtain ⟨t4,m4,y1,y2,y3,g4,k4,a4⟩:=fm_row e88 e89 e90 e91 e92 e93 e94 e95 e96 e97 e98 e99 e100 e101 e102 e103 e104 e105 e109 e110 x1 x2 x3 x4
 obtain ⟨et,yb⟩:=three_top e111 e112 g4 k4 a4
 simp only [Nat.mul_zero,Nat.add_zero] at t1
 rw [A1] at t2
 rw [A2] at t3
 rw [A3] at t4
 obtain ⟨hU,hT⟩:=fm_four t1 t2 t3 t4 m1 m2 m3 m4 wb0 wb1 wb2 wb3
 rw [← et] at hU hT
 obtain ⟨hr,hlt,r⟩:=row_fin (u5:=0) e113 e114 e115 e116 e117 e118 e119 e120 e121 e122 e123 e124 e125 e126 y1 y2 y3 yb (by rw [Nat.mul_zero,Nat.add_zero]; exact hU)
 rw [Nat.mul_zero,Nat.add_zero] at hr
 exact ⟨mont_fin hr hT,hlt,r⟩
def ex113:List Ex:=[
.sel (.v 192) (.v 189) (.v 182),
.sel (.v 192) (.v 187) (.v 176),
.sel (.v 192) (.v 185) (.v 174),
.sel (.v 192) (.v 183) (.v 172),
.subb (.c 0) (.c 0) (.v 190),
.subs (.c 0) (.c 0) (.v 190),
.subb (.v 182) (.c 4294967295) (.v 188),
.subs (.v 182) (.c 4294967295) (.v 188),
.subb (.v 176) (.c 18446744073709551615) (.v 186),
.subs (.v 176) (.c 18446744073709551615) (.v 186),
.subb (.v 174) (.c 18446744069414584320) (.v 184),
.subs (.v 174) (.c 18446744069414584320) (.v 184),
.subb (.v 172) (.c 1) (.c 0),
.subs (.v 172) (.c 1) (.c 0),
.add 64 (.v 180) (.v 181),
.add 64 (.v 169) (.v 160),
.add 64 (.v 177) (.v 179),
.add 64 (.v 157) (.v 178),
.add 64 (.v 144) (.v 131),
.addc (.v 156) (.v 168) (.v 175),
.adds (.v 156) (.v 168) (.v 175),
.addc (.v 149) (.v 166) (.v 173),
.adds (.v 149) (.v 166) (.v 173),
.addc (.v 147) (.v 165) (.v 171),
.adds (.v 147) (.v 165) (.v 171),
.addc (.v 145) (.v 159) (.c 0),
.adds (.v 145) (.v 159) (.c 0),
.addc (.v 162) (.v 161) (.v 167),
.adds (.v 162) (.v 161) (.v 167),
.addc (.v 164) (.v 163) (.c 0),
.adds (.v 164) (.v 163) (.c 0),
.mull (.v 159) (.c 18446744069414584320),
.mulh (.v 159) (.c 18446744069414584320),
.mull (.v 159) (.c 18446744073709551615),
.mulh (.v 159) (.c 18446744073709551615),
.mull (.v 159) (.c 4294967295),
.mulh (.v 159) (.c 4294967295),
.mull (.v 145) (.c 18446744073709551615),
.mulh (.v 145) (.c 18446744073709551615),
.addc (.v 155) (.v 143) (.v 150),
.adds (.v 155) (.v 143) (.v 150),
.add 64 (.v 153) (.v 154),
.add 64 (.v 122) (.v 113),
.add 64 (.v 130) (.v 152),
.add 64 (.v 110) (.v 151),
.add 64 (.v 97) (.v 84),
.addc (.v 129) (.v 141) (.v 148),
.adds (.v 129) (.v 141) (.v 148),
.addc (.v 127) (.v 139) (.v 146),
.adds (.v 127) (.v 139) (.v 146),
.addc (.v 125) (.v 138) (.c 0),
.adds (.v 125) (.v 138) (.c 0),
.addc (.v 133) (.v 132) (.v 142),
.adds (.v 133) (.v 132) (.v 142),
.addc (.v 135) (.v 134) (.v 140),
.adds (.v 135) (.v 134) (.v 140),
.addc (.v 137) (.v 136) (.c 0),
.adds (.v 137) (.v 136) (.c 0),
.mull (.v 3) (.c 18446744069414584321),
.mulh (.v 3) (.c 18446744069414584321),
.mull (.v 3) (.c 18446744069414584320),
.mulh (.v 3) (.c 18446744069414584320),
.mull (.v 3) (.c 18446744065119617024),
.mulh (.v 3) (.c 18446744065119617024),
.mull (.v 3) (.c 4294967295),
.mulh (.v 3) (.c 4294967295),
.addc (.v 109) (.v 121) (.v 128),
.adds (.v 109) (.v 121) (.v 128),
.addc (.v 102) (.v 119) (.v 126),
.adds (.v 102) (.v 119) (.v 126),
.addc (.v 100) (.v 118) (.v 124),
.adds (.v 100) (.v 118) (.v 124),
.addc (.v 98) (.v 112) (.c 0),
.adds (.v 98) (.v 112) (.c 0),
.addc (.v 115) (.v 114) (.v 120),
.adds (.v 115) (.v 114) (.v 120),
.addc (.v 117) (.v 116) (.c 0),
.adds (.v 117) (.v 116) (.c 0),
.mull (.v 112) (.c 18446744069414584320),
.mulh (.v 112) (.c 18446744069414584320),
.mull (.v 112) (.c 18446744073709551615),
.mulh (.v 112) (.c 18446744073709551615),
.mull (.v 112) (.c 4294967295),
.mulh (.v 112) (.c 4294967295),
.mull (.v 98) (.c 18446744073709551615),
.mulh (.v 98) (.c 18446744073709551615),
.addc (.v 108) (.v 96) (.v 103),
.adds (.v 108) (.v 96) (.v 103),
.add 64 (.v 106) (.v 107),
.add 64 (.v 75) (.v 66),
.add 64 (.v 83) (.v 105),
.add 64 (.v 63) (.v 104),
.add 64 (.v 51) (.v 38),
.addc (.v 82) (.v 94) (.v 101),
.adds (.v 82) (.v 94) (.v 101),
.addc (.v 80) (.v 92) (.v 99),
.adds (.v 80) (.v 92) (.v 99),
.addc (.v 78) (.v 91) (.c 0),
.adds (.v 78) (.v 91) (.c 0),
.addc (.v 86) (.v 85) (.v 95),
.adds (.v 86) (.v 85) (.v 95),
.addc (.v 88) (.v 87) (.v 93),
.adds (.v 88) (.v 87) (.v 93),
.addc (.v 90) (.v 89) (.c 0),
.adds (.v 90) (.v 89) (.c 0),
.mull (.v 2) (.c 18446744069414584321),
.mulh (.v 2) (.c 18446744069414584321),
.mull (.v 2) (.c 18446744069414584320),
.mulh (.v 2) (.c 18446744069414584320),
.mull (.v 2) (.c 18446744065119617024),
.mulh (.v 2) (.c 18446744065119617024),
.mull (.v 2) (.c 4294967295),
.mulh (.v 2) (.c 4294967295),
.addc (.v 62) (.v 74) (.v 81),
.adds (.v 62) (.v 74) (.v 81),
.addc (.v 56) (.v 72) (.v 79),
.adds (.v 56) (.v 72) (.v 79),
.addc (.v 54) (.v 71) (.v 77),
.adds (.v 54) (.v 71) (.v 77),
.addc (.v 52) (.v 65) (.c 0),
.adds (.v 52) (.v 65) (.c 0),
.addc (.v 68) (.v 67) (.v 73),
.adds (.v 68) (.v 67) (.v 73),
.addc (.v 70) (.v 69) (.c 0),
.adds (.v 70) (.v 69) (.c 0),
.mull (.v 65) (.c 18446744069414584320),
.mulh (.v 65) (.c 18446744069414584320),
.mull (.v 65) (.c 18446744073709551615),
.mulh (.v 65) (.c 18446744073709551615),
.mull (.v 65) (.c 4294967295),
.mulh (.v 65) (.c 4294967295),
.mull (.v 52) (.c 18446744073709551615),
.mulh (.v 52) (.c 18446744073709551615),
.addc (.v 61) (.v 50) (.v 57),
.adds (.v 61) (.v 50) (.v 57),
.add 64 (.v 59) (.v 60),
.add 64 (.v 29) (.v 20),
.add 64 (.v 37) (.v 58),
.add 64 (.v 17) (.v 4),
.addc (.v 36) (.v 48) (.v 55),
.adds (.v 36) (.v 48) (.v 55),
.addc (.v 34) (.v 46) (.v 53),
.adds (.v 34) (.v 46) (.v 53),
.addc (.v 32) (.v 45) (.c 0),
.adds (.v 32) (.v 45) (.c 0),
.addc (.v 40) (.v 39) (.v 49),
.adds (.v 40) (.v 39) (.v 49),
.addc (.v 42) (.v 41) (.v 47),
.adds (.v 42) (.v 41) (.v 47),
.addc (.v 44) (.v 43) (.c 0),
.adds (.v 44) (.v 43) (.c 0),
.mull (.v 1) (.c 18446744069414584321),
.mulh (.v 1) (.c 18446744069414584321),
.mull (.v 1) (.c 18446744069414584320),
.mulh (.v 1) (.c 18446744069414584320),
.mull (.v 1) (.c 18446744065119617024),
.mulh (.v 1) (.c 18446744065119617024),
.mull (.v 1) (.c 4294967295),
.mulh (.v 1) (.c 4294967295),
.addc (.v 16) (.v 28) (.v 35),
.adds (.v 16) (.v 28) (.v 35),
.addc (.v 14) (.v 26) (.v 33),
.adds (.v 14) (.v 26) (.v 33),
.addc (.v 12) (.v 25) (.v 31),
.adds (.v 12) (.v 25) (.v 31),
.addc (.v 11) (.v 19) (.c 0),
.adds (.v 11) (.v 19) (.c 0),
.addc (.v 22) (.v 21) (.v 27),
.adds (.v 22) (.v 21) (.v 27),
.addc (.v 24) (.v 23) (.c 0),
.adds (.v 24) (.v 23) (.c 0),
.mull (.v 19) (.c 18446744069414584320),
.mulh (.v 19) (.c 18446744069414584320),
.mull (.v 19) (.c 18446744073709551615),
.mulh (.v 19) (.c 18446744073709551615),
.mull (.v 19) (.c 4294967295),
.mulh (.v 19) (.c 4294967295),
.mull (.v 11) (.c 18446744073709551615),
.mulh (.v 11) (.c 18446744073709551615),
.addc (.v 6) (.v 5) (.v 15),
.adds (.v 6) (.v 5) (.v 15),
.addc (.v 8) (.v 7) (.v 13),
.adds (.v 8) (.v 7) (.v 13),
.addc (.v 10) (.v 9) (.c 0),
.adds (.v 10) (.v 9) (.c 0),
.mull (.v 0) (.c 18446744069414584321),
.mulh (.v 0) (.c 18446744069414584321),
.mull (.v 0) (.c 18446744069414584320),
.mulh (.v 0) (.c 18446744069414584320),
.mull (.v 0) (.c 18446744065119617024),
.mulh (.v 0) (.c 18446744065119617024),
.mull (.v 0) (.c 4294967295),
.mulh (.v 0) (.c 4294967295)]
theorem holds113 {s:Nums} (h:Holds s 197 ex113) (wb0:s 0<18446744073709551616) (wb1:s 1<18446744073709551616) (wb2:s 2<18446744073709551616) (wb3:s 3<18446744073709551616) :
  (s 193+18446744073709551616*s 194+340282366920938463463374607431768211456*s 195+6277101735386680763835789423207666416102355444464034512896*s 196)*115792089237316195423570985008687907853269984665640564039457584007913129639936 % 26959946667150639794667015087019630673557916260026308143510066298881=(s 0+18446744073709551616*s 1+340282366920938463463374607431768211456*s 2+6277101735386680763835789423207666416102355444464034512896*s 3)*26959946667150639791744011812698107204071485058075563455699384008705 % 26959946667150639794667015087019630673557916260026308143510066298881∧s 193+18446744073709551616*s 194+340282366920938463463374607431768211456*s 195+6277101735386680763835789423207666416102355444464034512896*s 196<26959946667150639794667015087019630673557916260026308143510066298881∧s 193<18446744073709551616∧s 194<18446744073709551616∧s 195<18446744073709551616∧s 196<18446744073709551616:=by
 have e4:s 4=s 0*4294967295 / 18446744073709551616:=h.at 192 4 (.mulh (.v 0) (.c 4294967295)) rfl rfl
 have e5:s 5=s 0*4294967295 % 18446744073709551616:=h.at 191 5 (.mull (.v 0) (.c 4294967295)) rfl rfl
 have e6:s 6=s 0*18446744065119617024 / 18446744073709551616:=h.at 190 6 (.mulh (.v 0) (.c 18446744065119617024)) rfl rfl
 have e7:s 7=s 0*18446744065119617024 % 18446744073709551616:=h.at 189 7 (.mull (.v 0) (.c 18446744065119617024)) rfl rfl
 have e8:s 8=s 0*18446744069414584320 / 18446744073709551616:=h.at 188 8 (.mulh (.v 0) (.c 18446744069414584320)) rfl rfl
 have e9:s 9=s 0*18446744069414584320 % 18446744073709551616:=h.at 187 9 (.mull (.v 0) (.c 18446744069414584320)) rfl rfl
 have e10:s 10=s 0*18446744069414584321 / 18446744073709551616:=h.at 186 10 (.mulh (.v 0) (.c 18446744069414584321)) rfl rfl
 have e11:s 11=s 0*18446744069414584321 % 18446744073709551616:=h.at 185 11 (.mull (.v 0) (.c 18446744069414584321)) rfl rfl
 have e12:s 12=(s 10+s 9+0) % 18446744073709551616:=h.at 184 12 (.adds (.v 10) (.v 9) (.c 0)) rfl rfl
 have e13:s 13=(s 10+s 9+0) / 18446744073709551616:=h.at 183 13 (.addc (.v 10) (.v 9) (.c 0)) rfl rfl
 have e14:s 14=(s 8+s 7+s 13) % 18446744073709551616:=h.at 182 14 (.adds (.v 8) (.v 7) (.v 13)) rfl rfl
 have e15:s 15=(s 8+s 7+s 13) / 18446744073709551616:=h.at 181 15 (.addc (.v 8) (.v 7) (.v 13)) rfl rfl
 have e16:s 16=(s 6+s 5+s 15) % 18446744073709551616:=h.at 180 16 (.adds (.v 6) (.v 5) (.v 15)) rfl rfl
 have e17:s 17=(s 6+s 5+s 15) / 18446744073709551616:=h.at 179 17 (.addc (.v 6) (.v 5) (.v 15)) rfl rfl
 have e18:s 18=s 11*18446744073709551615 / 18446744073709551616:=h.at 178 18 (.mulh (.v 11) (.c 18446744073709551615)) rfl rfl
 have e19:s 19=s 11*18446744073709551615 % 18446744073709551616:=h.at 177 19 (.mull (.v 11) (.c 18446744073709551615)) rfl rfl
 have e20:s 20=s 19*4294967295 / 18446744073709551616:=h.at 176 20 (.mulh (.v 19) (.c 4294967295)) rfl rfl
 have e21:s 21=s 19*4294967295 % 18446744073709551616:=h.at 175 21 (.mull (.v 19) (.c 4294967295)) rfl rfl
 have e22:s 22=s 19*18446744073709551615 / 18446744073709551616:=h.at 174 22 (.mulh (.v 19) (.c 18446744073709551615)) rfl rfl
 have e23:s 23=s 19*18446744073709551615 % 18446744073709551616:=h.at 173 23 (.mull (.v 19) (.c 18446744073709551615)) rfl rfl
 have e24:s 24=s 19*18446744069414584320 / 18446744073709551616:=h.at 172 24 (.mulh (.v 19) (.c 18446744069414584320)) rfl rfl
 have e25:s 25=s 19*18446744069414584320 % 18446744073709551616:=h.at 171 25 (.mull (.v 19) (.c 18446744069414584320)) rfl rfl
 have e26:s 26=(s 24+s 23+0) % 18446744073709551616:=h.at 170 26 (.adds (.v 24) (.v 23) (.c 0)) rfl rfl
 have e27:s 27=(s 24+s 23+0) / 18446744073709551616:=h.at 169 27 (.addc (.v 24) (.v 23) (.c 0)) rfl rfl
 have e28:s 28=(s 22+s 21+s 27) % 18446744073709551616:=h.at 168 28 (.adds (.v 22) (.v 21) (.v 27)) rfl rfl
 have e29:s 29=(s 22+s 21+s 27) / 18446744073709551616:=h.at 167 29 (.addc (.v 22) (.v 21) (.v 27)) rfl rfl
 have e30:s 30=(s 11+s 19+0) % 18446744073709551616:=h.at 166 30 (.adds (.v 11) (.v 19) (.c 0)) rfl rfl
 have e31:s 31=(s 11+s 19+0) / 18446744073709551616:=h.at 165 31 (.addc (.v 11) (.v 19) (.c 0)) rfl rfl
 have e32:s 32=(s 12+s 25+s 31) % 18446744073709551616:=h.at 164 32 (.adds (.v 12) (.v 25) (.v 31)) rfl rfl
 have e33:s 33=(s 12+s 25+s 31) / 18446744073709551616:=h.at 163 33 (.addc (.v 12) (.v 25) (.v 31)) rfl rfl
 have e34:s 34=(s 14+s 26+s 33) % 18446744073709551616:=h.at 162 34 (.adds (.v 14) (.v 26) (.v 33)) rfl rfl
 have e35:s 35=(s 14+s 26+s 33) / 18446744073709551616:=h.at 161 35 (.addc (.v 14) (.v 26) (.v 33)) rfl rfl
 have e36:s 36=(s 16+s 28+s 35) % 18446744073709551616:=h.at 160 36 (.adds (.v 16) (.v 28) (.v 35)) rfl rfl
 have e37:s 37=(s 16+s 28+s 35) / 18446744073709551616:=h.at 159 37 (.addc (.v 16) (.v 28) (.v 35)) rfl rfl
 have e38:s 38=s 1*4294967295 / 18446744073709551616:=h.at 158 38 (.mulh (.v 1) (.c 4294967295)) rfl rfl
 have e39:s 39=s 1*4294967295 % 18446744073709551616:=h.at 157 39 (.mull (.v 1) (.c 4294967295)) rfl rfl
 have e40:s 40=s 1*18446744065119617024 / 18446744073709551616:=h.at 156 40 (.mulh (.v 1) (.c 18446744065119617024)) rfl rfl
 have e41:s 41=s 1*18446744065119617024 % 18446744073709551616:=h.at 155 41 (.mull (.v 1) (.c 18446744065119617024)) rfl rfl
 have e42:s 42=s 1*18446744069414584320 / 18446744073709551616:=h.at 154 42 (.mulh (.v 1) (.c 18446744069414584320)) rfl rfl
 have e43:s 43=s 1*18446744069414584320 % 18446744073709551616:=h.at 153 43 (.mull (.v 1) (.c 18446744069414584320)) rfl rfl
 have e44:s 44=s 1*18446744069414584321 / 18446744073709551616:=h.at 152 44 (.mulh (.v 1) (.c 18446744069414584321)) rfl rfl
 have e45:s 45=s 1*18446744069414584321 % 18446744073709551616:=h.at 151 45 (.mull (.v 1) (.c 18446744069414584321)) rfl rfl
 have e46:s 46=(s 44+s 43+0) % 18446744073709551616:=h.at 150 46 (.adds (.v 44) (.v 43) (.c 0)) rfl rfl
 have e47:s 47=(s 44+s 43+0) / 18446744073709551616:=h.at 149 47 (.addc (.v 44) (.v 43) (.c 0)) rfl rfl
 have e48:s 48=(s 42+s 41+s 47) % 18446744073709551616:=h.at 148 48 (.adds (.v 42) (.v 41) (.v 47)) rfl rfl
 have e49:s 49=(s 42+s 41+s 47) / 18446744073709551616:=h.at 147 49 (.addc (.v 42) (.v 41) (.v 47)) rfl rfl
 have e50:s 50=(s 40+s 39+s 49) % 18446744073709551616:=h.at 146 50 (.adds (.v 40) (.v 39) (.v 49)) rfl rfl
 have e51:s 51=(s 40+s 39+s 49) / 18446744073709551616:=h.at 145 51 (.addc (.v 40) (.v 39) (.v 49)) rfl rfl
 have e52:s 52=(s 32+s 45+0) % 18446744073709551616:=h.at 144 52 (.adds (.v 32) (.v 45) (.c 0)) rfl rfl
 have e53:s 53=(s 32+s 45+0) / 18446744073709551616:=h.at 143 53 (.addc (.v 32) (.v 45) (.c 0)) rfl rfl
 have e54:s 54=(s 34+s 46+s 53) % 18446744073709551616:=h.at 142 54 (.adds (.v 34) (.v 46) (.v 53)) rfl rfl
 have e55:s 55=(s 34+s 46+s 53) / 18446744073709551616:=h.at 141 55 (.addc (.v 34) (.v 46) (.v 53)) rfl rfl
 have e56:s 56=(s 36+s 48+s 55) % 18446744073709551616:=h.at 140 56 (.adds (.v 36) (.v 48) (.v 55)) rfl rfl
 have e57:s 57=(s 36+s 48+s 55) / 18446744073709551616:=h.at 139 57 (.addc (.v 36) (.v 48) (.v 55)) rfl rfl
 have e58:s 58=(s 17+s 4) % 18446744073709551616:=h.at 138 58 (.add 64 (.v 17) (.v 4)) rfl rfl
 have e59:s 59=(s 37+s 58) % 18446744073709551616:=h.at 137 59 (.add 64 (.v 37) (.v 58)) rfl rfl
 have e60:s 60=(s 29+s 20) % 18446744073709551616:=h.at 136 60 (.add 64 (.v 29) (.v 20)) rfl rfl
 have e61:s 61=(s 59+s 60) % 18446744073709551616:=h.at 135 61 (.add 64 (.v 59) (.v 60)) rfl rfl
 have e62:s 62=(s 61+s 50+s 57) % 18446744073709551616:=h.at 134 62 (.adds (.v 61) (.v 50) (.v 57)) rfl rfl
 have e63:s 63=(s 61+s 50+s 57) / 18446744073709551616:=h.at 133 63 (.addc (.v 61) (.v 50) (.v 57)) rfl rfl
 have e64:s 64=s 52*18446744073709551615 / 18446744073709551616:=h.at 132 64 (.mulh (.v 52) (.c 18446744073709551615)) rfl rfl
 have e65:s 65=s 52*18446744073709551615 % 18446744073709551616:=h.at 131 65 (.mull (.v 52) (.c 18446744073709551615)) rfl rfl
 have e66:s 66=s 65*4294967295 / 18446744073709551616:=h.at 130 66 (.mulh (.v 65) (.c 4294967295)) rfl rfl
 have e67:s 67=s 65*4294967295 % 18446744073709551616:=h.at 129 67 (.mull (.v 65) (.c 4294967295)) rfl rfl
 have e68:s 68=s 65*18446744073709551615 / 18446744073709551616:=h.at 128 68 (.mulh (.v 65) (.c 18446744073709551615)) rfl rfl
 have e69:s 69=s 65*18446744073709551615 % 18446744073709551616:=h.at 127 69 (.mull (.v 65) (.c 18446744073709551615)) rfl rfl
 have e70:s 70=s 65*18446744069414584320 / 18446744073709551616:=h.at 126 70 (.mulh (.v 65) (.c 18446744069414584320)) rfl rfl
 have e71:s 71=s 65*18446744069414584320 % 18446744073709551616:=h.at 125 71 (.mull (.v 65) (.c 18446744069414584320)) rfl rfl
 have e72:s 72=(s 70+s 69+0) % 18446744073709551616:=h.at 124 72 (.adds (.v 70) (.v 69) (.c 0)) rfl rfl
 have e73:s 73=(s 70+s 69+0) / 18446744073709551616:=h.at 123 73 (.addc (.v 70) (.v 69) (.c 0)) rfl rfl
 have e74:s 74=(s 68+s 67+s 73) % 18446744073709551616:=h.at 122 74 (.adds (.v 68) (.v 67) (.v 73)) rfl rfl
 have e75:s 75=(s 68+s 67+s 73) / 18446744073709551616:=h.at 121 75 (.addc (.v 68) (.v 67) (.v 73)) rfl rfl
 have e76:s 76=(s 52+s 65+0) % 18446744073709551616:=h.at 120 76 (.adds (.v 52) (.v 65) (.c 0)) rfl rfl
 have e77:s 77=(s 52+s 65+0) / 18446744073709551616:=h.at 119 77 (.addc (.v 52) (.v 65) (.c 0)) rfl rfl
 have e78:s 78=(s 54+s 71+s 77) % 18446744073709551616:=h.at 118 78 (.adds (.v 54) (.v 71) (.v 77)) rfl rfl
 have e79:s 79=(s 54+s 71+s 77) / 18446744073709551616:=h.at 117 79 (.addc (.v 54) (.v 71) (.v 77)) rfl rfl
 have e80:s 80=(s 56+s 72+s 79) % 18446744073709551616:=h.at 116 80 (.adds (.v 56) (.v 72) (.v 79)) rfl rfl
 have e81:s 81=(s 56+s 72+s 79) / 18446744073709551616:=h.at 115 81 (.addc (.v 56) (.v 72) (.v 79)) rfl rfl
 have e82:s 82=(s 62+s 74+s 81) % 18446744073709551616:=h.at 114 82 (.adds (.v 62) (.v 74) (.v 81)) rfl rfl
 have e83:s 83=(s 62+s 74+s 81) / 18446744073709551616:=h.at 113 83 (.addc (.v 62) (.v 74) (.v 81)) rfl rfl
 have e84:s 84=s 2*4294967295 / 18446744073709551616:=h.at 112 84 (.mulh (.v 2) (.c 4294967295)) rfl rfl
 have e85:s 85=s 2*4294967295 % 18446744073709551616:=h.at 111 85 (.mull (.v 2) (.c 4294967295)) rfl rfl
 have e86:s 86=s 2*18446744065119617024 / 18446744073709551616:=h.at 110 86 (.mulh (.v 2) (.c 18446744065119617024)) rfl rfl
 have e87:s 87=s 2*18446744065119617024 % 18446744073709551616:=h.at 109 87 (.mull (.v 2) (.c 18446744065119617024)) rfl rfl
 have e88:s 88=s 2*18446744069414584320 / 18446744073709551616:=h.at 108 88 (.mulh (.v 2) (.c 18446744069414584320)) rfl rfl
 have e89:s 89=s 2*18446744069414584320 % 18446744073709551616:=h.at 107 89 (.mull (.v 2) (.c 18446744069414584320)) rfl rfl
 have e90:s 90=s 2*18446744069414584321 / 18446744073709551616:=h.at 106 90 (.mulh (.v 2) (.c 18446744069414584321)) rfl rfl
 have e91:s 91=s 2*18446744069414584321 % 18446744073709551616:=h.at 105 91 (.mull (.v 2) (.c 18446744069414584321)) rfl rfl
 have e92:s 92=(s 90+s 89+0) % 18446744073709551616:=h.at 104 92 (.adds (.v 90) (.v 89) (.c 0)) rfl rfl
 have e93:s 93=(s 90+s 89+0) / 18446744073709551616:=h.at 103 93 (.addc (.v 90) (.v 89) (.c 0)) rfl rfl
 have e94:s 94=(s 88+s 87+s 93) % 18446744073709551616:=h.at 102 94 (.adds (.v 88) (.v 87) (.v 93)) rfl rfl
 have e95:s 95=(s 88+s 87+s 93) / 18446744073709551616:=h.at 101 95 (.addc (.v 88) (.v 87) (.v 93)) rfl rfl
 have e96:s 96=(s 86+s 85+s 95) % 18446744073709551616:=h.at 100 96 (.adds (.v 86) (.v 85) (.v 95)) rfl rfl
 have e97:s 97=(s 86+s 85+s 95) / 18446744073709551616:=h.at 99 97 (.addc (.v 86) (.v 85) (.v 95)) rfl rfl
 have e98:s 98=(s 78+s 91+0) % 18446744073709551616:=h.at 98 98 (.adds (.v 78) (.v 91) (.c 0)) rfl rfl
 have e99:s 99=(s 78+s 91+0) / 18446744073709551616:=h.at 97 99 (.addc (.v 78) (.v 91) (.c 0)) rfl rfl
 have e100:s 100=(s 80+s 92+s 99) % 18446744073709551616:=h.at 96 100 (.adds (.v 80) (.v 92) (.v 99)) rfl rfl
 have e101:s 101=(s 80+s 92+s 99) / 18446744073709551616:=h.at 95 101 (.addc (.v 80) (.v 92) (.v 99)) rfl rfl
 have e102:s 102=(s 82+s 94+s 101) % 18446744073709551616:=h.at 94 102 (.adds (.v 82) (.v 94) (.v 101)) rfl rfl
 have e103:s 103=(s 82+s 94+s 101) / 18446744073709551616:=h.at 93 103 (.addc (.v 82) (.v 94) (.v 101)) rfl rfl
 have e104:s 104=(s 51+s 38) % 18446744073709551616:=h.at 92 104 (.add 64 (.v 51) (.v 38)) rfl rfl
 have e105:s 105=(s 63+s 104) % 18446744073709551616:=h.at 91 105 (.add 64 (.v 63) (.v 104)) rfl rfl
 have e106:s 106=(s 83+s 105) % 18446744073709551616:=h.at 90 106 (.add 64 (.v 83) (.v 105)) rfl rfl
 have e107:s 107=(s 75+s 66) % 18446744073709551616:=h.at 89 107 (.add 64 (.v 75) (.v 66)) rfl rfl
 have e108:s 108=(s 106+s 107) % 18446744073709551616:=h.at 88 108 (.add 64 (.v 106) (.v 107)) rfl rfl
 have e109:s 109=(s 108+s 96+s 103) % 18446744073709551616:=h.at 87 109 (.adds (.v 108) (.v 96) (.v 103)) rfl rfl
 have e110:s 110=(s 108+s 96+s 103) / 18446744073709551616:=h.at 86 110 (.addc (.v 108) (.v 96) (.v 103)) rfl rfl
 have e111:s 111=s 98*18446744073709551615 / 18446744073709551616:=h.at 85 111 (.mulh (.v 98) (.c 18446744073709551615)) rfl rfl
 have e112:s 112=s 98*18446744073709551615 % 18446744073709551616:=h.at 84 112 (.mull (.v 98) (.c 18446744073709551615)) rfl rfl
 have e113:s 113=s 112*4294967295 / 18446744073709551616:=h.at 83 113 (.mulh (.v 112) (.c 4294967295)) rfl rfl
 have e114:s 114=s 112*4294967295 % 18446744073709551616:=h.at 82 114 (.mull (.v 112) (.c 4294967295)) rfl rfl
 have e115:s 115=s 112*18446744073709551615 / 18446744073709551616:=h.at 81 115 (.mulh (.v 112) (.c 18446744073709551615)) rfl rfl
 have e116:s 116=s 112*18446744073709551615 % 18446744073709551616:=h.at 80 116 (.mull (.v 112) (.c 18446744073709551615)) rfl rfl
 have e117:s 117=s 112*18446744069414584320 / 18446744073709551616:=h.at 79 117 (.mulh (.v 112) (.c 18446744069414584320)) rfl rfl
 have e118:s 118=s 112*18446744069414584320 % 18446744073709551616:=h.at 78 118 (.mull (.v 112) (.c 18446744069414584320)) rfl rfl
 have e119:s 119=(s 117+s 116+0) % 18446744073709551616:=h.at 77 119 (.adds (.v 117) (.v 116) (.c 0)) rfl rfl
 have e120:s 120=(s 117+s 116+0) / 18446744073709551616:=h.at 76 120 (.addc (.v 117) (.v 116) (.c 0)) rfl rfl
 have e121:s 121=(s 115+s 114+s 120) % 18446744073709551616:=h.at 75 121 (.adds (.v 115) (.v 114) (.v 120)) rfl rfl
 have e122:s 122=(s 115+s 114+s 120) / 18446744073709551616:=h.at 74 122 (.addc (.v 115) (.v 114) (.v 120)) rfl rfl
 have e123:s 123=(s 98+s 112+0) % 18446744073709551616:=h.at 73 123 (.adds (.v 98) (.v 112) (.c 0)) rfl rfl
 have e124:s 124=(s 98+s 112+0) / 18446744073709551616:=h.at 72 124 (.addc (.v 98) (.v 112) (.c 0)) rfl rfl
 have e125:s 125=(s 100+s 118+s 124) % 18446744073709551616:=h.at 71 125 (.adds (.v 100) (.v 118) (.v 124)) rfl rfl
 have e126:s 126=(s 100+s 118+s 124) / 18446744073709551616:=h.at 70 126 (.addc (.v 100) (.v 118) (.v 124)) rfl rfl
 have e127:s 127=(s 102+s 119+s 126) % 18446744073709551616:=h.at 69 127 (.adds (.v 102) (.v 119) (.v 126)) rfl rfl
 have e128:s 128=(s 102+s 119+s 126) / 18446744073709551616:=h.at 68 128 (.addc (.v 102) (.v 119) (.v 126)) rfl rfl
 have e129:s 129=(s 109+s 121+s 128) % 18446744073709551616:=h.at 67 129 (.adds (.v 109) (.v 121) (.v 128)) rfl rfl
 have e130:s 130=(s 109+s 121+s 128) / 18446744073709551616:=h.at 66 130 (.addc (.v 109) (.v 121) (.v 128)) rfl rfl
 have e131:s 131=s 3*4294967295 / 18446744073709551616:=h.at 65 131 (.mulh (.v 3) (.c 4294967295)) rfl rfl
 have e132:s 132=s 3*4294967295 % 18446744073709551616:=h.at 64 132 (.mull (.v 3) (.c 4294967295)) rfl rfl
 have e133:s 133=s 3*18446744065119617024 / 18446744073709551616:=h.at 63 133 (.mulh (.v 3) (.c 18446744065119617024)) rfl rfl
 have e134:s 134=s 3*18446744065119617024 % 18446744073709551616:=h.at 62 134 (.mull (.v 3) (.c 18446744065119617024)) rfl rfl
 have e135:s 135=s 3*18446744069414584320 / 18446744073709551616:=h.at 61 135 (.mulh (.v 3) (.c 18446744069414584320)) rfl rfl
 have e136:s 136=s 3*18446744069414584320 % 18446744073709551616:=h.at 60 136 (.mull (.v 3) (.c 18446744069414584320)) rfl rfl
 have e137:s 137=s 3*18446744069414584321 / 18446744073709551616:=h.at 59 137 (.mulh (.v 3) (.c 18446744069414584321)) rfl rfl
 have e138:s 138=s 3*18446744069414584321 % 18446744073709551616:=h.at 58 138 (.mull (.v 3) (.c 18446744069414584321)) rfl rfl
 have e139:s 139=(s 137+s 136+0) % 18446744073709551616:=h.at 57 139 (.adds (.v 137) (.v 136) (.c 0)) rfl rfl
 have e140:s 140=(s 137+s 136+0) / 18446744073709551616:=h.at 56 140 (.addc (.v 137) (.v 136) (.c 0)) rfl rfl
 have e141:s 141=(s 135+s 134+s 140) % 18446744073709551616:=h.at 55 141 (.adds (.v 135) (.v 134) (.v 140)) rfl rfl
 have e142:s 142=(s 135+s 134+s 140) / 18446744073709551616:=h.at 54 142 (.addc (.v 135) (.v 134) (.v 140)) rfl rfl
 have e143:s 143=(s 133+s 132+s 142) % 18446744073709551616:=h.at 53 143 (.adds (.v 133) (.v 132) (.v 142)) rfl rfl
 have e144:s 144=(s 133+s 132+s 142) / 18446744073709551616:=h.at 52 144 (.addc (.v 133) (.v 132) (.v 142)) rfl rfl
 have e145:s 145=(s 125+s 138+0) % 18446744073709551616:=h.at 51 145 (.adds (.v 125) (.v 138) (.c 0)) rfl rfl
 have e146:s 146=(s 125+s 138+0) / 18446744073709551616:=h.at 50 146 (.addc (.v 125) (.v 138) (.c 0)) rfl rfl
 have e147:s 147=(s 127+s 139+s 146) % 18446744073709551616:=h.at 49 147 (.adds (.v 127) (.v 139) (.v 146)) rfl rfl
 have e148:s 148=(s 127+s 139+s 146) / 18446744073709551616:=h.at 48 148 (.addc (.v 127) (.v 139) (.v 146)) rfl rfl
 have e149:s 149=(s 129+s 141+s 148) % 18446744073709551616:=h.at 47 149 (.adds (.v 129) (.v 141) (.v 148)) rfl rfl
 have e150:s 150=(s 129+s 141+s 148) / 18446744073709551616:=h.at 46 150 (.addc (.v 129) (.v 141) (.v 148)) rfl rfl
 have e151:s 151=(s 97+s 84) % 18446744073709551616:=h.at 45 151 (.add 64 (.v 97) (.v 84)) rfl rfl
 have e152:s 152=(s 110+s 151) % 18446744073709551616:=h.at 44 152 (.add 64 (.v 110) (.v 151)) rfl rfl
 have e153:s 153=(s 130+s 152) % 18446744073709551616:=h.at 43 153 (.add 64 (.v 130) (.v 152)) rfl rfl
 have e154:s 154=(s 122+s 113) % 18446744073709551616:=h.at 42 154 (.add 64 (.v 122) (.v 113)) rfl rfl
 have e155:s 155=(s 153+s 154) % 18446744073709551616:=h.at 41 155 (.add 64 (.v 153) (.v 154)) rfl rfl
 have e156:s 156=(s 155+s 143+s 150) % 18446744073709551616:=h.at 40 156 (.adds (.v 155) (.v 143) (.v 150)) rfl rfl
 have e157:s 157=(s 155+s 143+s 150) / 18446744073709551616:=h.at 39 157 (.addc (.v 155) (.v 143) (.v 150)) rfl rfl
 have e158:s 158=s 145*18446744073709551615 / 18446744073709551616:=h.at 38 158 (.mulh (.v 145) (.c 18446744073709551615)) rfl rfl
 have e159:s 159=s 145*18446744073709551615 % 18446744073709551616:=h.at 37 159 (.mull (.v 145) (.c 18446744073709551615)) rfl rfl
 have e160:s 160=s 159*4294967295 / 18446744073709551616:=h.at 36 160 (.mulh (.v 159) (.c 4294967295)) rfl rfl
 have e161:s 161=s 159*4294967295 % 18446744073709551616:=h.at 35 161 (.mull (.v 159) (.c 4294967295)) rfl rfl
 have e162:s 162=s 159*18446744073709551615 / 18446744073709551616:=h.at 34 162 (.mulh (.v 159) (.c 18446744073709551615)) rfl rfl
 have e163:s 163=s 159*18446744073709551615 % 18446744073709551616:=h.at 33 163 (.mull (.v 159) (.c 18446744073709551615)) rfl rfl
 have e164:s 164=s 159*18446744069414584320 / 18446744073709551616:=h.at 32 164 (.mulh (.v 159) (.c 18446744069414584320)) rfl rfl
 have e165:s 165=s 159*18446744069414584320 % 18446744073709551616:=h.at 31 165 (.mull (.v 159) (.c 18446744069414584320)) rfl rfl
 have e166:s 166=(s 164+s 163+0) % 18446744073709551616:=h.at 30 166 (.adds (.v 164) (.v 163) (.c 0)) rfl rfl
 have e167:s 167=(s 164+s 163+0) / 18446744073709551616:=h.at 29 167 (.addc (.v 164) (.v 163) (.c 0)) rfl rfl
 have e168:s 168=(s 162+s 161+s 167) % 18446744073709551616:=h.at 28 168 (.adds (.v 162) (.v 161) (.v 167)) rfl rfl
 have e169:s 169=(s 162+s 161+s 167) / 18446744073709551616:=h.at 27 169 (.addc (.v 162) (.v 161) (.v 167)) rfl rfl
 have e170:s 170=(s 145+s 159+0) % 18446744073709551616:=h.at 26 170 (.adds (.v 145) (.v 159) (.c 0)) rfl rfl
 have e171:s 171=(s 145+s 159+0) / 18446744073709551616:=h.at 25 171 (.addc (.v 145) (.v 159) (.c 0)) rfl rfl
 have e172:s 172=(s 147+s 165+s 171) % 18446744073709551616:=h.at 24 172 (.adds (.v 147) (.v 165) (.v 171)) rfl rfl
 have e173:s 173=(s 147+s 165+s 171) / 18446744073709551616:=h.at 23 173 (.addc (.v 147) (.v 165) (.v 171)) rfl rfl
 have e174:s 174=(s 149+s 166+s 173) % 18446744073709551616:=h.at 22 174 (.adds (.v 149) (.v 166) (.v 173)) rfl rfl
 have e175:s 175=(s 149+s 166+s 173) / 18446744073709551616:=h.at 21 175 (.addc (.v 149) (.v 166) (.v 173)) rfl rfl
 have e176:s 176=(s 156+s 168+s 175) % 18446744073709551616:=h.at 20 176 (.adds (.v 156) (.v 168) (.v 175)) rfl rfl
 have e177:s 177=(s 156+s 168+s 175) / 18446744073709551616:=h.at 19 177 (.addc (.v 156) (.v 168) (.v 175)) rfl rfl
 have e178:s 178=(s 144+s 131) % 18446744073709551616:=h.at 18 178 (.add 64 (.v 144) (.v 131)) rfl rfl
 have e179:s 179=(s 157+s 178) % 18446744073709551616:=h.at 17 179 (.add 64 (.v 157) (.v 178)) rfl rfl
 have e180:s 180=(s 177+s 179) % 18446744073709551616:=h.at 16 180 (.add 64 (.v 177) (.v 179)) rfl rfl
 have e181:s 181=(s 169+s 160) % 18446744073709551616:=h.at 15 181 (.add 64 (.v 169) (.v 160)) rfl rfl
 have e182:s 182=(s 180+s 181) % 18446744073709551616:=h.at 14 182 (.add 64 (.v 180) (.v 181)) rfl rfl
 have e183:s 183=(s 172+18446744073709551616 - 1 - 0) % 18446744073709551616:=h.at 13 183 (.subs (.v 172) (.c 1) (.c 0)) rfl rfl
 have e184:s 184=if s 172<1+0 then 1 else 0:=h.at 12 184 (.subb (.v 172) (.c 1) (.c 0)) rfl rfl
 have e185:s 185=(s 174+18446744073709551616 - 18446744069414584320 - s 184) % 18446744073709551616:=h.at 11 185 (.subs (.v 174) (.c 18446744069414584320) (.v 184)) rfl rfl
 have e186:s 186=if s 174<18446744069414584320+s 184 then 1 else 0:=h.at 10 186 (.subb (.v 174) (.c 18446744069414584320) (.v 184)) rfl rfl
 have e187:s 187=(s 176+18446744073709551616 - 18446744073709551615 - s 186) % 18446744073709551616:=h.at 9 187 (.subs (.v 176) (.c 18446744073709551615) (.v 186)) rfl rfl
 have e188:s 188=if s 176<18446744073709551615+s 186 then 1 else 0:=h.at 8 188 (.subb (.v 176) (.c 18446744073709551615) (.v 186)) rfl rfl
 have e189:s 189=(s 182+18446744073709551616 - 4294967295 - s 188) % 18446744073709551616:=h.at 7 189 (.subs (.v 182) (.c 4294967295) (.v 188)) rfl rfl
 have e190:s 190=if s 182<4294967295+s 188 then 1 else 0:=h.at 6 190 (.subb (.v 182) (.c 4294967295) (.v 188)) rfl rfl
 have e191:s 191=(0+18446744073709551616 - 0 - s 190) % 18446744073709551616:=h.at 5 191 (.subs (.c 0) (.c 0) (.v 190)) rfl rfl
 have e192:s 192=if 0<0+s 190 then 1 else 0:=h.at 4 192 (.subb (.c 0) (.c 0) (.v 190)) rfl rfl
 have e193:s 193=if s 192=0 then s 183 else s 172:=h.at 3 193 (.sel (.v 192) (.v 183) (.v 172)) rfl rfl
 have e194:s 194=if s 192=0 then s 185 else s 174:=h.at 2 194 (.sel (.v 192) (.v 185) (.v 174)) rfl rfl
 have e195:s 195=if s 192=0 then s 187 else s 176:=h.at 1 195 (.sel (.v 192) (.v 187) (.v 176)) rfl rfl
 have e196:s 196=if s 192=0 then s 189 else s 182:=h.at 0 196 (.sel (.v 192) (.v 189) (.v 182)) rfl rfl
 clear h
 obtain ⟨k0,l0,l1,l2,l3,c0,h0⟩:=tm_mul wb0 e4 e5 e6 e7 e8 e9 e10 e11 e12 e13 e14 e15 e16 e17
 obtain ⟨t0,m0,u1,u2,u3,g0,kk0,a0⟩:=fm_row e18 e19 e20 e21 e22 e23 e24 e25 e26 e27 e28 e29 e30 e31 e32 e33 e34 e35 e36 e37 l0 l1 l2 l3
 obtain ⟨tp0,tb0⟩:=top_tm0 e58 e59 e60 e61 c0 h0 g0 kk0 a0
 have j0:=tm_join (U:=0) (X:=s 0*26959946667150639791744011812698107204071485058075563455699384008705) t0 (by rw [Nat.zero_add]; exact k0) tp0
 have tl1:=small_word tb0
 obtain ⟨k1,n0,n1,n2,n3,c1,h1⟩:=tm_mul wb1 e38 e39 e40 e41 e42 e43 e44 e45 e46 e47 e48 e49 e50 e51
 obtain ⟨ac1,v0,v1,v2,v3,dd1⟩:=tm_acc (p:=s 51+s 38) e52 e53 e54 e55 e56 e57 e62 e63 u1 u2 u3 tl1 n0 n1 n2 n3
 clear u1 u2 u3 n0 n1 n2 n3
 obtain ⟨t1,m1,u1,u2,u3,g1,kk1,a1⟩:=fm_row e64 e65 e66 e67 e68 e69 e70 e71 e72 e73 e74 e75 e76 e77 e78 e79 e80 e81 e82 e83 v0 v1 v2 v3
 obtain ⟨tp1,tb1⟩:=top_tm e104 e105 e106 e107 e108 c1 h1 dd1 g1 kk1 a1
 rw [k1] at ac1
 have j1:=tm_join t1 ac1 tp1
 clear v0 v1 v2 v3
 have tl2:=small_word tb1
 obtain ⟨k2,n0,n1,n2,n3,c2,h2⟩:=tm_mul wb2 e84 e85 e86 e87 e88 e89 e90 e91 e92 e93 e94 e95 e96 e97
 obtain ⟨ac2,v0,v1,v2,v3,dd2⟩:=tm_acc (p:=s 97+s 84) e98 e99 e100 e101 e102 e103 e109 e110 u1 u2 u3 tl2 n0 n1 n2 n3
 clear u1 u2 u3 n0 n1 n2 n3
 obtain ⟨t2,m2,u1,u2,u3,g2,kk2,a2⟩:=fm_row e111 e112 e113 e114 e115 e116 e117 e118 e119 e120 e121 e122 e123 e124 e125 e126 e127 e128 e129 e130 v0 v1 v2 v3
 obtain ⟨tp2,tb2⟩:=top_tm e151 e152 e153 e154 e155 c2 h2 dd2 g2 kk2 a2
 rw [k2] at ac2
 have j2:=tm_join t2 ac2 tp2
 clear v0 v1 v2 v3
 have tl3:=small_word tb2
 obtain ⟨k3,n0,n1,n2,n3,c3,h3⟩:=tm_mul wb3 e131 e132 e133 e134 e135 e136 e137 e138 e139 e140 e141 e142 e143 e144
 obtain ⟨ac3,v0,v1,v2,v3,dd3⟩:=tm_acc (p:=s 144+s 131) e145 e146 e147 e148 e149 e150 e156 e157 u1 u2 u3 tl3 n0 n1 n2 n3
 clear u1 u2 u3 n0 n1 n2 n3
 obtain ⟨t3,m3,u1,u2,u3,g3,kk3,a3⟩:=fm_row e158 e159 e160 e161 e162 e163 e164 e165 e166 e167 e168 e169 e170 e171 e172 e173 e174 e175 e176 e177 v0 v1 v2 v3
 obtain ⟨tp3,tb3⟩:=top_tm e178 e179 e180 e181 e182 c3 h3 dd3 g3 kk3 a3
 rw [k3] at ac3
 have j3:=tm_join t3 ac3 tp3
 clear v0 v1 v2 v3
 have j0':=j0
 rw [Nat.zero_add] at j0'
 obtain ⟨hU,hT⟩:=mont_four j0' j1 j2 j3 m0 m1 m2 m3 (const_le wb0) (const_le wb1) (const_le wb2) (const_le wb3)
 have yb:=small_word tb3
 obtain ⟨hr,hlt,r⟩:=row_fin (u5:=0) e183 e184 e185 e186 e187 e188 e189 e190 e191 e192 e193 e194 e195 e196 u1 u2 u3 yb (by rw [Nat.mul_zero,Nat.add_zero]; exact hU)
 rw [Nat.mul_zero,Nat.add_zero] at hr
 refine ⟨?_,hlt,r⟩
 rw [four_mul (s 0)]
 exact mont_fin hr hT
def ex118:List Ex:=[
.sel (.v 0) (.v 4) (.v 8),
.sel (.v 0) (.v 3) (.v 7),
.sel (.v 0) (.v 2) (.v 6),
.sel (.v 0) (.v 1) (.v 5)]
theorem holds118 {s:Nums} (h:Holds s 13 ex118)  :
  (s 9=if s 0=0 then s 1 else s 5)∧(s 10=if s 0=0 then s 2 else s 6)∧(s 11=if s 0=0 then s 3 else s 7)∧(s 12=if s 0=0 then s 4 else s 8):=by
 have e9:s 9=if s 0=0 then s 1 else s 5:=h.at 3 9 (.sel (.v 0) (.v 1) (.v 5)) rfl rfl
 have e10:s 10=if s 0=0 then s 2 else s 6:=h.at 2 10 (.sel (.v 0) (.v 2) (.v 6)) rfl rfl
 have e11:s 11=if s 0=0 then s 3 else s 7:=h.at 1 11 (.sel (.v 0) (.v 3) (.v 7)) rfl rfl
 have e12:s 12=if s 0=0 then s 4 else s 8:=h.at 0 12 (.sel (.v 0) (.v 4) (.v 8)) rfl rfl
 clear h
 exact ⟨e9,e10,e11,e12⟩
def ex124:List Ex:=[
.low 8 (.v 78),
.shr 8 (.v 75),
.and (.v 76) (.c 255),
.low 8 (.v 75),
.shr 8 (.v 72),
.and (.v 73) (.c 255),
.low 8 (.v 72),
.shr 8 (.v 3),
.and (.v 70) (.c 255),
.low 8 (.v 3),
.low 8 (.v 68),
.shr 8 (.v 65),
.and (.v 66) (.c 255),
.low 8 (.v 65),
.shr 8 (.v 62),
.and (.v 63) (.c 255),
.low 8 (.v 62),
.shr 8 (.v 59),
.and (.v 60) (.c 255),
.low 8 (.v 59),
.shr 8 (.v 56),
.and (.v 57) (.c 255),
.low 8 (.v 56),
.shr 8 (.v 53),
.and (.v 54) (.c 255),
.low 8 (.v 53),
.shr 8 (.v 50),
.and (.v 51) (.c 255),
.low 8 (.v 50),
.shr 8 (.v 2),
.and (.v 48) (.c 255),
.low 8 (.v 2),
.low 8 (.v 46),
.shr 8 (.v 43),
.and (.v 44) (.c 255),
.low 8 (.v 43),
.shr 8 (.v 40),
.and (.v 41) (.c 255),
.low 8 (.v 40),
.shr 8 (.v 37),
.and (.v 38) (.c 255),
.low 8 (.v 37),
.shr 8 (.v 34),
.and (.v 35) (.c 255),
.low 8 (.v 34),
.shr 8 (.v 31),
.and (.v 32) (.c 255),
.low 8 (.v 31),
.shr 8 (.v 28),
.and (.v 29) (.c 255),
.low 8 (.v 28),
.shr 8 (.v 1),
.and (.v 26) (.c 255),
.low 8 (.v 1),
.low 8 (.v 24),
.shr 8 (.v 21),
.and (.v 22) (.c 255),
.low 8 (.v 21),
.shr 8 (.v 18),
.and (.v 19) (.c 255),
.low 8 (.v 18),
.shr 8 (.v 15),
.and (.v 16) (.c 255),
.low 8 (.v 15),
.shr 8 (.v 12),
.and (.v 13) (.c 255),
.low 8 (.v 12),
.shr 8 (.v 9),
.and (.v 10) (.c 255),
.low 8 (.v 9),
.shr 8 (.v 6),
.and (.v 7) (.c 255),
.low 8 (.v 6),
.shr 8 (.v 0),
.and (.v 4) (.c 255),
.low 8 (.v 0)]
theorem holds124 {s:Nums} (h:Holds s 80 ex124)  :
  s 5=s 0 / 1 % 256∧s 8=s 0 / 256 % 256∧s 11=s 0 / 65536 % 256∧s 14=s 0 / 16777216 % 256∧s 17=s 0 / 4294967296 % 256∧s 20=s 0 / 1099511627776 % 256∧s 23=s 0 / 281474976710656 % 256∧s 25=s 0 / 72057594037927936 % 256∧s 27=s 1 / 1 % 256∧s 30=s 1 / 256 % 256∧s 33=s 1 / 65536 % 256∧s 36=s 1 / 16777216 % 256∧s 39=s 1 / 4294967296 % 256∧s 42=s 1 / 1099511627776 % 256∧s 45=s 1 / 281474976710656 % 256∧s 47=s 1 / 72057594037927936 % 256∧s 49=s 2 / 1 % 256∧s 52=s 2 / 256 % 256∧s 55=s 2 / 65536 % 256∧s 58=s 2 / 16777216 % 256∧s 61=s 2 / 4294967296 % 256∧s 64=s 2 / 1099511627776 % 256∧s 67=s 2 / 281474976710656 % 256∧s 69=s 2 / 72057594037927936 % 256∧s 71=s 3 / 1 % 256∧s 74=s 3 / 256 % 256∧s 77=s 3 / 65536 % 256∧s 79=s 3 / 16777216 % 256:=by
 have e4:s 4=s 0 % 256:=h.at 75 4 (.low 8 (.v 0)) rfl rfl
 have e5:s 5=s 4 &&& 255:=h.at 74 5 (.and (.v 4) (.c 255)) rfl rfl
 have e6:s 6=s 0 / 256:=h.at 73 6 (.shr 8 (.v 0)) rfl rfl
 have e7:s 7=s 6 % 256:=h.at 72 7 (.low 8 (.v 6)) rfl rfl
 have e8:s 8=s 7 &&& 255:=h.at 71 8 (.and (.v 7) (.c 255)) rfl rfl
 have e9:s 9=s 6 / 256:=h.at 70 9 (.shr 8 (.v 6)) rfl rfl
 have e10:s 10=s 9 % 256:=h.at 69 10 (.low 8 (.v 9)) rfl rfl
 have e11:s 11=s 10 &&& 255:=h.at 68 11 (.and (.v 10) (.c 255)) rfl rfl
 have e12:s 12=s 9 / 256:=h.at 67 12 (.shr 8 (.v 9)) rfl rfl
 have e13:s 13=s 12 % 256:=h.at 66 13 (.low 8 (.v 12)) rfl rfl
 have e14:s 14=s 13 &&& 255:=h.at 65 14 (.and (.v 13) (.c 255)) rfl rfl
 have e15:s 15=s 12 / 256:=h.at 64 15 (.shr 8 (.v 12)) rfl rfl
 have e16:s 16=s 15 % 256:=h.at 63 16 (.low 8 (.v 15)) rfl rfl
 have e17:s 17=s 16 &&& 255:=h.at 62 17 (.and (.v 16) (.c 255)) rfl rfl
 have e18:s 18=s 15 / 256:=h.at 61 18 (.shr 8 (.v 15)) rfl rfl
 have e19:s 19=s 18 % 256:=h.at 60 19 (.low 8 (.v 18)) rfl rfl
 have e20:s 20=s 19 &&& 255:=h.at 59 20 (.and (.v 19) (.c 255)) rfl rfl
 have e21:s 21=s 18 / 256:=h.at 58 21 (.shr 8 (.v 18)) rfl rfl
 have e22:s 22=s 21 % 256:=h.at 57 22 (.low 8 (.v 21)) rfl rfl
 have e23:s 23=s 22 &&& 255:=h.at 56 23 (.and (.v 22) (.c 255)) rfl rfl
 have e24:s 24=s 21 / 256:=h.at 55 24 (.shr 8 (.v 21)) rfl rfl
 have e25:s 25=s 24 % 256:=h.at 54 25 (.low 8 (.v 24)) rfl rfl
 have e26:s 26=s 1 % 256:=h.at 53 26 (.low 8 (.v 1)) rfl rfl
 have e27:s 27=s 26 &&& 255:=h.at 52 27 (.and (.v 26) (.c 255)) rfl rfl
 have e28:s 28=s 1 / 256:=h.at 51 28 (.shr 8 (.v 1)) rfl rfl
 have e29:s 29=s 28 % 256:=h.at 50 29 (.low 8 (.v 28)) rfl rfl
 have e30:s 30=s 29 &&& 255:=h.at 49 30 (.and (.v 29) (.c 255)) rfl rfl
 have e31:s 31=s 28 / 256:=h.at 48 31 (.shr 8 (.v 28)) rfl rfl
 have e32:s 32=s 31 % 256:=h.at 47 32 (.low 8 (.v 31)) rfl rfl
 have e33:s 33=s 32 &&& 255:=h.at 46 33 (.and (.v 32) (.c 255)) rfl rfl
 have e34:s 34=s 31 / 256:=h.at 45 34 (.shr 8 (.v 31)) rfl rfl
 have e35:s 35=s 34 % 256:=h.at 44 35 (.low 8 (.v 34)) rfl rfl
 have e36:s 36=s 35 &&& 255:=h.at 43 36 (.and (.v 35) (.c 255)) rfl rfl
 have e37:s 37=s 34 / 256:=h.at 42 37 (.shr 8 (.v 34)) rfl rfl
 have e38:s 38=s 37 % 256:=h.at 41 38 (.low 8 (.v 37)) rfl rfl
 have e39:s 39=s 38 &&& 255:=h.at 40 39 (.and (.v 38) (.c 255)) rfl rfl
 have e40:s 40=s 37 / 256:=h.at 39 40 (.shr 8 (.v 37)) rfl rfl
 have e41:s 41=s 40 % 256:=h.at 38 41 (.low 8 (.v 40)) rfl rfl
 have e42:s 42=s 41 &&& 255:=h.at 37 42 (.and (.v 41) (.c 255)) rfl rfl
 have e43:s 43=s 40 / 256:=h.at 36 43 (.shr 8 (.v 40)) rfl rfl
 have e44:s 44=s 43 % 256:=h.at 35 44 (.low 8 (.v 43)) rfl rfl
 have e45:s 45=s 44 &&& 255:=h.at 34 45 (.and (.v 44) (.c 255)) rfl rfl
 have e46:s 46=s 43 / 256:=h.at 33 46 (.shr 8 (.v 43)) rfl rfl
 have e47:s 47=s 46 % 256:=h.at 32 47 (.low 8 (.v 46)) rfl rfl
 have e48:s 48=s 2 % 256:=h.at 31 48 (.low 8 (.v 2)) rfl rfl
 have e49:s 49=s 48 &&& 255:=h.at 30 49 (.and (.v 48) (.c 255)) rfl rfl
 have e50:s 50=s 2 / 256:=h.at 29 50 (.shr 8 (.v 2)) rfl rfl
 have e51:s 51=s 50 % 256:=h.at 28 51 (.low 8 (.v 50)) rfl rfl
 have e52:s 52=s 51 &&& 255:=h.at 27 52 (.and (.v 51) (.c 255)) rfl rfl
 have e53:s 53=s 50 / 256:=h.at 26 53 (.shr 8 (.v 50)) rfl rfl
 have e54:s 54=s 53 % 256:=h.at 25 54 (.low 8 (.v 53)) rfl rfl
 have e55:s 55=s 54 &&& 255:=h.at 24 55 (.and (.v 54) (.c 255)) rfl rfl
 have e56:s 56=s 53 / 256:=h.at 23 56 (.shr 8 (.v 53)) rfl rfl
 have e57:s 57=s 56 % 256:=h.at 22 57 (.low 8 (.v 56)) rfl rfl
 have e58:s 58=s 57 &&& 255:=h.at 21 58 (.and (.v 57) (.c 255)) rfl rfl
 have e59:s 59=s 56 / 256:=h.at 20 59 (.shr 8 (.v 56)) rfl rfl
 have e60:s 60=s 59 % 256:=h.at 19 60 (.low 8 (.v 59)) rfl rfl
 have e61:s 61=s 60 &&& 255:=h.at 18 61 (.and (.v 60) (.c 255)) rfl rfl
 have e62:s 62=s 59 / 256:=h.at 17 62 (.shr 8 (.v 59)) rfl rfl
 have e63:s 63=s 62 % 256:=h.at 16 63 (.low 8 (.v 62)) rfl rfl
 have e64:s 64=s 63 &&& 255:=h.at 15 64 (.and (.v 63) (.c 255)) rfl rfl
 have e65:s 65=s 62 / 256:=h.at 14 65 (.shr 8 (.v 62)) rfl rfl
 have e66:s 66=s 65 % 256:=h.at 13 66 (.low 8 (.v 65)) rfl rfl
 have e67:s 67=s 66 &&& 255:=h.at 12 67 (.and (.v 66) (.c 255)) rfl rfl
 have e68:s 68=s 65 / 256:=h.at 11 68 (.shr 8 (.v 65)) rfl rfl
 have e69:s 69=s 68 % 256:=h.at 10 69 (.low 8 (.v 68)) rfl rfl
 have e70:s 70=s 3 % 256:=h.at 9 70 (.low 8 (.v 3)) rfl rfl
 have e71:s 71=s 70 &&& 255:=h.at 8 71 (.and (.v 70) (.c 255)) rfl rfl
 have e72:s 72=s 3 / 256:=h.at 7 72 (.shr 8 (.v 3)) rfl rfl
 have e73:s 73=s 72 % 256:=h.at 6 73 (.low 8 (.v 72)) rfl rfl
 have e74:s 74=s 73 &&& 255:=h.at 5 74 (.and (.v 73) (.c 255)) rfl rfl
 have e75:s 75=s 72 / 256:=h.at 4 75 (.shr 8 (.v 72)) rfl rfl
 have e76:s 76=s 75 % 256:=h.at 3 76 (.low 8 (.v 75)) rfl rfl
 have e77:s 77=s 76 &&& 255:=h.at 2 77 (.and (.v 76) (.c 255)) rfl rfl
 have e78:s 78=s 75 / 256:=h.at 1 78 (.shr 8 (.v 75)) rfl rfl
 have e79:s 79=s 78 % 256:=h.at 0 79 (.low 8 (.v 78)) rfl rfl
 clear h
 simp only [and_byte] at *
 refine ⟨?_,?_,?_,?_,?_,?_,?_,?_,?_,?_,?_,?_,?_,?_,?_,?_,?_,?_,?_,?_,?_,?_,?_,?_,?_,?_,?_,?_⟩
 ·clear e6 e7 e8 e9 e10 e11 e12 e13 e14 e15 e16 e17 e18 e19 e20 e21 e22 e23 e24 e25 e26 e27 e28 e29 e30 e31 e32 e33 e34 e35 e36 e37 e38 e39 e40 e41 e42 e43 e44 e45 e46 e47 e48 e49 e50 e51 e52 e53 e54 e55 e56 e57 e58 e59 e60 e61 e62 e63 e64 e65 e66 e67 e68 e69 e70 e71 e72 e73 e74 e75 e76 e77 e78 e79
  omega
 ·clear e4 e5 e9 e10 e11 e12 e13 e14 e15 e16 e17 e18 e19 e20 e21 e22 e23 e24 e25 e26 e27 e28 e29 e30 e31 e32 e33 e34 e35 e36 e37 e38 e39 e40 e41 e42 e43 e44 e45 e46 e47 e48 e49 e50 e51 e52 e53 e54 e55 e56 e57 e58 e59 e60 e61 e62 e63 e64 e65 e66 e67 e68 e69 e70 e71 e72 e73 e74 e75 e76 e77 e78 e79
  omega
 ·clear e4 e5 e7 e8 e12 e13 e14 e15 e16 e17 e18 e19 e20 e21 e22 e23 e24 e25 e26 e27 e28 e29 e30 e31 e32 e33 e34 e35 e36 e37 e38 e39 e40 e41 e42 e43 e44 e45 e46 e47 e48 e49 e50 e51 e52 e53 e54 e55 e56 e57 e58 e59 e60 e61 e62 e63 e64 e65 e66 e67 e68 e69 e70 e71 e72 e73 e74 e75 e76 e77 e78 e79
  omega
 ·clear e4 e5 e7 e8 e10 e11 e15 e16 e17 e18 e19 e20 e21 e22 e23 e24 e25 e26 e27 e28 e29 e30 e31 e32 e33 e34 e35 e36 e37 e38 e39 e40 e41 e42 e43 e44 e45 e46 e47 e48 e49 e50 e51 e52 e53 e54 e55 e56 e57 e58 e59 e60 e61 e62 e63 e64 e65 e66 e67 e68 e69 e70 e71 e72 e73 e74 e75 e76 e77 e78 e79
  omega
 ·clear e4 e5 e7 e8 e10 e11 e13 e14 e18 e19 e20 e21 e22 e23 e24 e25 e26 e27 e28 e29 e30 e31 e32 e33 e34 e35 e36 e37 e38 e39 e40 e41 e42 e43 e44 e45 e46 e47 e48 e49 e50 e51 e52 e53 e54 e55 e56 e57 e58 e59 e60 e61 e62 e63 e64 e65 e66 e67 e68 e69 e70 e71 e72 e73 e74 e75 e76 e77 e78 e79
  omega
 ·clear e4 e5 e7 e8 e10 e11 e13 e14 e16 e17 e21 e22 e23 e24 e25 e26 e27 e28 e29 e30 e31 e32 e33 e34 e35 e36 e37 e38 e39 e40 e41 e42 e43 e44 e45 e46 e47 e48 e49 e50 e51 e52 e53 e54 e55 e56 e57 e58 e59 e60 e61 e62 e63 e64 e65 e66 e67 e68 e69 e70 e71 e72 e73 e74 e75 e76 e77 e78 e79
  omega
 ·clear e4 e5 e7 e8 e10 e11 e13 e14 e16 e17 e19 e20 e24 e25 e26 e27 e28 e29 e30 e31 e32 e33 e34 e35 e36 e37 e38 e39 e40 e41 e42 e43 e44 e45 e46 e47 e48 e49 e50 e51 e52 e53 e54 e55 e56 e57 e58 e59 e60 e61 e62 e63 e64 e65 e66 e67 e68 e69 e70 e71 e72 e73 e74 e75 e76 e77 e78 e79
  omega
 ·clear e4 e5 e7 e8 e10 e11 e13 e14 e16 e17 e19 e20 e22 e23 e26 e27 e28 e29 e30 e31 e32 e33 e34 e35 e36 e37 e38 e39 e40 e41 e42 e43 e44 e45 e46 e47 e48 e49 e50 e51 e52 e53 e54 e55 e56 e57 e58 e59 e60 e61 e62 e63 e64 e65 e66 e67 e68 e69 e70 e71 e72 e73 e74 e75 e76 e77 e78 e79
  omega
 ·clear e4 e5 e6 e7 e8 e9 e10 e11 e12 e13 e14 e15 e16 e17 e18 e19 e20 e21 e22 e23 e24 e25 e28 e29 e30 e31 e32 e33 e34 e35 e36 e37 e38 e39 e40 e41 e42 e43 e44 e45 e46 e47 e48 e49 e50 e51 e52 e53 e54 e55 e56 e57 e58 e59 e60 e61 e62 e63 e64 e65 e66 e67 e68 e69 e70 e71 e72 e73 e74 e75 e76 e77 e78 e79
  omega
 ·clear e4 e5 e6 e7 e8 e9 e10 e11 e12 e13 e14 e15 e16 e17 e18 e19 e20 e21 e22 e23 e24 e25 e26 e27 e31 e32 e33 e34 e35 e36 e37 e38 e39 e40 e41 e42 e43 e44 e45 e46 e47 e48 e49 e50 e51 e52 e53 e54 e55 e56 e57 e58 e59 e60 e61 e62 e63 e64 e65 e66 e67 e68 e69 e70 e71 e72 e73 e74 e75 e76 e77 e78 e79
  omega
 ·clear e4 e5 e6 e7 e8 e9 e10 e11 e12 e13 e14 e15 e16 e17 e18 e19 e20 e21 e22 e23 e24 e25 e26 e27 e29 e30 e34 e35 e36 e37 e38 e39 e40 e41 e42 e43 e44 e45 e46 e47 e48 e49 e50 e51 e52 e53 e54 e55 e56 e57 e58 e59 e60 e61 e62 e63 e64 e65 e66 e67 e68 e69 e70 e71 e72 e73 e74 e75 e76 e77 e78 e79
  omega
 ·clear e4 e5 e6 e7 e8 e9 e10 e11 e12 e13 e14 e15 e16 e17 e18 e19 e20 e21 e22 e23 e24 e25 e26 e27 e29 e30 e32 e33 e37 e38 e39 e40 e41 e42 e43 e44 e45 e46 e47 e48 e49 e50 e51 e52 e53 e54 e55 e56 e57 e58 e59 e60 e61 e62 e63 e64 e65 e66 e67 e68 e69 e70 e71 e72 e73 e74 e75 e76 e77 e78 e79
  omega
 ·clear e4 e5 e6 e7 e8 e9 e10 e11 e12 e13 e14 e15 e16 e17 e18 e19 e20 e21 e22 e23 e24 e25 e26 e27 e29 e30 e32 e33 e35 e36 e40 e41 e42 e43 e44 e45 e46 e47 e48 e49 e50 e51 e52 e53 e54 e55 e56 e57 e58 e59 e60 e61 e62 e63 e64 e65 e66 e67 e68 e69 e70 e71 e72 e73 e74 e75 e76 e77 e78 e79
  omega
 ·clear e4 e5 e6 e7 e8 e9 e10 e11 e12 e13 e14 e15 e16 e17 e18 e19 e20 e21 e22 e23 e24 e25 e26 e27 e29 e30 e32 e33 e35 e36 e38 e39 e43 e44 e45 e46 e47 e48 e49 e50 e51 e52 e53 e54 e55 e56 e57 e58 e59 e60 e61 e62 e63 e64 e65 e66 e67 e68 e69 e70 e71 e72 e73 e74 e75 e76 e77 e78 e79
  omega
 ·clear e4 e5 e6 e7 e8 e9 e10 e11 e12 e13 e14 e15 e16 e17 e18 e19 e20 e21 e22 e23 e24 e25 e26 e27 e29 e30 e32 e33 e35 e36 e38 e39 e41 e42 e46 e47 e48 e49 e50 e51 e52 e53 e54 e55 e56 e57 e58 e59 e60 e61 e62 e63 e64 e65 e66 e67 e68 e69 e70 e71 e72 e73 e74 e75 e76 e77 e78 e79
  omega
 ·clear e4 e5 e6 e7 e8 e9 e10 e11 e12 e13 e14 e15 e16 e17 e18 e19 e20 e21 e22 e23 e24 e25 e26 e27 e29 e30 e32 e33 e35 e36 e38 e39 e41 e42 e44 e45 e48 e49 e50 e51 e52 e53 e54 e55 e56 e57 e58 e59 e60 e61 e62 e63 e64 e65 e66 e67 e68 e69 e70 e71 e72 e73 e74 e75 e76 e77 e78 e79
  omega
 ·clear e4 e5 e6 e7 e8 e9 e10 e11 e12 e13 e14 e15 e16 e17 e18 e19 e20 e21 e22 e23 e24 e25 e26 e27 e28 e29 e30 e31 e32 e33 e34 e35 e36 e37 e38 e39 e40 e41 e42 e43 e44 e45 e46 e47 e50 e51 e52 e53 e54 e55 e56 e57 e58 e59 e60 e61 e62 e63 e64 e65 e66 e67 e68 e69 e70 e71 e72 e73 e74 e75 e76 e77 e78 e79
  omega
 ·clear e4 e5 e6 e7 e8 e9 e10 e11 e12 e13 e14 e15 e16 e17 e18 e19 e20 e21 e22 e23 e24 e25 e26 e27 e28 e29 e30 e31 e32 e33 e34 e35 e36 e37 e38 e39 e40 e41 e42 e43 e44 e45 e46 e47 e48 e49 e53 e54 e55 e56 e57 e58 e59 e60 e61 e62 e63 e64 e65 e66 e67 e68 e69 e70 e71 e72 e73 e74 e75 e76 e77 e78 e79
  omega
 ·clear e4 e5 e6 e7 e8 e9 e10 e11 e12 e13 e14 e15 e16 e17 e18 e19 e20 e21 e22 e23 e24 e25 e26 e27 e28 e29 e30 e31 e32 e33 e34 e35 e36 e37 e38 e39 e40 e41 e42 e43 e44 e45 e46 e47 e48 e49 e51 e52 e56 e57 e58 e59 e60 e61 e62 e63 e64 e65 e66 e67 e68 e69 e70 e71 e72 e73 e74 e75 e76 e77 e78 e79
  omega
 ·clear e4 e5 e6 e7 e8 e9 e10 e11 e12 e13 e14 e15 e16 e17 e18 e19 e20 e21 e22 e23 e24 e25 e26 e27 e28 e29 e30 e31 e32 e33 e34 e35 e36 e37 e38 e39 e40 e41 e42 e43 e44 e45 e46 e47 e48 e49 e51 e52 e54 e55 e59 e60 e61 e62 e63 e64 e65 e66 e67 e68 e69 e70 e71 e72 e73 e74 e75 e76 e77 e78 e79
  omega
 ·clear e4 e5 e6 e7 e8 e9 e10 e11 e12 e13 e14 e15 e16 e17 e18 e19 e20 e21 e22 e23 e24 e25 e26 e27 e28 e29 e30 e31 e32 e33 e34 e35 e36 e37 e38 e39 e40 e41 e42 e43 e44 e45 e46 e47 e48 e49 e51 e52 e54 e55 e57 e58 e62 e63 e64 e65 e66 e67 e68 e69 e70 e71 e72 e73 e74 e75 e76 e77 e78 e79
  omega
 ·clear e4 e5 e6 e7 e8 e9 e10 e11 e12 e13 e14 e15 e16 e17 e18 e19 e20 e21 e22 e23 e24 e25 e26 e27 e28 e29 e30 e31 e32 e33 e34 e35 e36 e37 e38 e39 e40 e41 e42 e43 e44 e45 e46 e47 e48 e49 e51 e52 e54 e55 e57 e58 e60 e61 e65 e66 e67 e68 e69 e70 e71 e72 e73 e74 e75 e76 e77 e78 e79
  omega
 ·clear e4 e5 e6 e7 e8 e9 e10 e11 e12 e13 e14 e15 e16 e17 e18 e19 e20 e21 e22 e23 e24 e25 e26 e27 e28 e29 e30 e31 e32 e33 e34 e35 e36 e37 e38 e39 e40 e41 e42 e43 e44 e45 e46 e47 e48 e49 e51 e52 e54 e55 e57 e58 e60 e61 e63 e64 e68 e69 e70 e71 e72 e73 e74 e75 e76 e77 e78 e79
  omega
 ·clear e4 e5 e6 e7 e8 e9 e10 e11 e12 e13 e14 e15 e16 e17 e18 e19 e20 e21 e22 e23 e24 e25 e26 e27 e28 e29 e30 e31 e32 e33 e34 e35 e36 e37 e38 e39 e40 e41 e42 e43 e44 e45 e46 e47 e48 e49 e51 e52 e54 e55 e57 e58 e60 e61 e63 e64 e66 e67 e70 e71 e72 e73 e74 e75 e76 e77 e78 e79
  omega
 ·clear e4 e5 e6 e7 e8 e9 e10 e11 e12 e13 e14 e15 e16 e17 e18 e19 e20 e21 e22 e23 e24 e25 e26 e27 e28 e29 e30 e31 e32 e33 e34 e35 e36 e37 e38 e39 e40 e41 e42 e43 e44 e45 e46 e47 e48 e49 e50 e51 e52 e53 e54 e55 e56 e57 e58 e59 e60 e61 e62 e63 e64 e65 e66 e67 e68 e69 e72 e73 e74 e75 e76 e77 e78 e79
  omega
 ·clear e4 e5 e6 e7 e8 e9 e10 e11 e12 e13 e14 e15 e16 e17 e18 e19 e20 e21 e22 e23 e24 e25 e26 e27 e28 e29 e30 e31 e32 e33 e34 e35 e36 e37 e38 e39 e40 e41 e42 e43 e44 e45 e46 e47 e48 e49 e50 e51 e52 e53 e54 e55 e56 e57 e58 e59 e60 e61 e62 e63 e64 e65 e66 e67 e68 e69 e70 e71 e75 e76 e77 e78 e79
  omega
 ·clear e4 e5 e6 e7 e8 e9 e10 e11 e12 e13 e14 e15 e16 e17 e18 e19 e20 e21 e22 e23 e24 e25 e26 e27 e28 e29 e30 e31 e32 e33 e34 e35 e36 e37 e38 e39 e40 e41 e42 e43 e44 e45 e46 e47 e48 e49 e50 e51 e52 e53 e54 e55 e56 e57 e58 e59 e60 e61 e62 e63 e64 e65 e66 e67 e68 e69 e70 e71 e73 e74 e78 e79
  omega
 ·clear e4 e5 e6 e7 e8 e9 e10 e11 e12 e13 e14 e15 e16 e17 e18 e19 e20 e21 e22 e23 e24 e25 e26 e27 e28 e29 e30 e31 e32 e33 e34 e35 e36 e37 e38 e39 e40 e41 e42 e43 e44 e45 e46 e47 e48 e49 e50 e51 e52 e53 e54 e55 e56 e57 e58 e59 e60 e61 e62 e63 e64 e65 e66 e67 e68 e69 e70 e71 e73 e74 e76 e77
  omega
def ex112:List Ex:=[
.add 64 (.v 28) (.v 74),
.add 64 (.v 29) (.v 73),
.add 64 (.v 30) (.v 24),
.add 64 (.v 31) (.v 71),
.add 64 (.v 32) (.v 70),
.add 64 (.v 33) (.v 69),
.add 64 (.v 34) (.v 68),
.add 64 (.v 35) (.v 67),
.add 64 (.v 36) (.v 66),
.add 64 (.v 37) (.v 16),
.add 64 (.v 38) (.v 64),
.add 64 (.v 39) (.v 63),
.add 64 (.v 40) (.v 62),
.add 64 (.v 41) (.v 61),
.add 64 (.v 42) (.v 60),
.add 64 (.v 43) (.v 59),
.add 64 (.v 44) (.v 8),
.add 64 (.v 45) (.v 57),
.add 64 (.v 46) (.v 56),
.add 64 (.v 47) (.v 55),
.add 64 (.v 48) (.v 54),
.add 64 (.v 49) (.v 53),
.add 64 (.v 50) (.v 52),
.add 64 (.v 51) (.v 0),
.shl 64 8 (.v 1),
.shl 64 16 (.v 2),
.shl 64 24 (.v 3),
.shl 64 32 (.v 4),
.shl 64 40 (.v 5),
.shl 64 48 (.v 6),
.shl 64 56 (.v 7),
.shl 64 8 (.v 9),
.shl 64 16 (.v 10),
.shl 64 24 (.v 11),
.shl 64 32 (.v 12),
.shl 64 40 (.v 13),
.shl 64 48 (.v 14),
.shl 64 56 (.v 15),
.shl 64 8 (.v 17),
.shl 64 16 (.v 18),
.shl 64 24 (.v 19),
.shl 64 32 (.v 20),
.shl 64 40 (.v 21),
.shl 64 48 (.v 22),
.shl 64 56 (.v 23),
.shl 64 8 (.v 25),
.shl 64 16 (.v 26),
.shl 64 24 (.v 27)]
theorem holds112 {s:Nums} (h:Holds s 76 ex112) (b0:s 0<256) (b1:s 1<256) (b2:s 2<256) (b3:s 3<256) (b4:s 4<256) (b5:s 5<256) (b6:s 6<256) (b7:s 7<256) (b8:s 8<256) (b9:s 9<256) (b10:s 10<256) (b11:s 11<256) (b12:s 12<256) (b13:s 13<256) (b14:s 14<256) (b15:s 15<256) (b16:s 16<256) (b17:s 17<256) (b18:s 18<256) (b19:s 19<256) (b20:s 20<256) (b21:s 21<256) (b22:s 22<256) (b23:s 23<256) (b24:s 24<256) (b25:s 25<256) (b26:s 26<256) (b27:s 27<256) :
  s 58=s 0+256*s 1+65536*s 2+16777216*s 3+4294967296*s 4+1099511627776*s 5+281474976710656*s 6+72057594037927936*s 7∧s 65=s 8+256*s 9+65536*s 10+16777216*s 11+4294967296*s 12+1099511627776*s 13+281474976710656*s 14+72057594037927936*s 15∧s 72=s 16+256*s 17+65536*s 18+16777216*s 19+4294967296*s 20+1099511627776*s 21+281474976710656*s 22+72057594037927936*s 23∧s 75=s 24+256*s 25+65536*s 26+16777216*s 27:=by
 have e28:s 28=s 27*16777216 % 18446744073709551616:=h.at 47 28 (.shl 64 24 (.v 27)) rfl rfl
 have e29:s 29=s 26*65536 % 18446744073709551616:=h.at 46 29 (.shl 64 16 (.v 26)) rfl rfl
 have e30:s 30=s 25*256 % 18446744073709551616:=h.at 45 30 (.shl 64 8 (.v 25)) rfl rfl
 have e31:s 31=s 23*72057594037927936 % 18446744073709551616:=h.at 44 31 (.shl 64 56 (.v 23)) rfl rfl
 have e32:s 32=s 22*281474976710656 % 18446744073709551616:=h.at 43 32 (.shl 64 48 (.v 22)) rfl rfl
 have e33:s 33=s 21*1099511627776 % 18446744073709551616:=h.at 42 33 (.shl 64 40 (.v 21)) rfl rfl
 have e34:s 34=s 20*4294967296 % 18446744073709551616:=h.at 41 34 (.shl 64 32 (.v 20)) rfl rfl
 have e35:s 35=s 19*16777216 % 18446744073709551616:=h.at 40 35 (.shl 64 24 (.v 19)) rfl rfl
 have e36:s 36=s 18*65536 % 18446744073709551616:=h.at 39 36 (.shl 64 16 (.v 18)) rfl rfl
 have e37:s 37=s 17*256 % 18446744073709551616:=h.at 38 37 (.shl 64 8 (.v 17)) rfl rfl
 have e38:s 38=s 15*72057594037927936 % 18446744073709551616:=h.at 37 38 (.shl 64 56 (.v 15)) rfl rfl
 have e39:s 39=s 14*281474976710656 % 18446744073709551616:=h.at 36 39 (.shl 64 48 (.v 14)) rfl rfl
 have e40:s 40=s 13*1099511627776 % 18446744073709551616:=h.at 35 40 (.shl 64 40 (.v 13)) rfl rfl
 have e41:s 41=s 12*4294967296 % 18446744073709551616:=h.at 34 41 (.shl 64 32 (.v 12)) rfl rfl
 have e42:s 42=s 11*16777216 % 18446744073709551616:=h.at 33 42 (.shl 64 24 (.v 11)) rfl rfl
 have e43:s 43=s 10*65536 % 18446744073709551616:=h.at 32 43 (.shl 64 16 (.v 10)) rfl rfl
 have e44:s 44=s 9*256 % 18446744073709551616:=h.at 31 44 (.shl 64 8 (.v 9)) rfl rfl
 have e45:s 45=s 7*72057594037927936 % 18446744073709551616:=h.at 30 45 (.shl 64 56 (.v 7)) rfl rfl
 have e46:s 46=s 6*281474976710656 % 18446744073709551616:=h.at 29 46 (.shl 64 48 (.v 6)) rfl rfl
 have e47:s 47=s 5*1099511627776 % 18446744073709551616:=h.at 28 47 (.shl 64 40 (.v 5)) rfl rfl
 have e48:s 48=s 4*4294967296 % 18446744073709551616:=h.at 27 48 (.shl 64 32 (.v 4)) rfl rfl
 have e49:s 49=s 3*16777216 % 18446744073709551616:=h.at 26 49 (.shl 64 24 (.v 3)) rfl rfl
 have e50:s 50=s 2*65536 % 18446744073709551616:=h.at 25 50 (.shl 64 16 (.v 2)) rfl rfl
 have e51:s 51=s 1*256 % 18446744073709551616:=h.at 24 51 (.shl 64 8 (.v 1)) rfl rfl
 have e52:s 52=(s 51+s 0) % 18446744073709551616:=h.at 23 52 (.add 64 (.v 51) (.v 0)) rfl rfl
 have e53:s 53=(s 50+s 52) % 18446744073709551616:=h.at 22 53 (.add 64 (.v 50) (.v 52)) rfl rfl
 have e54:s 54=(s 49+s 53) % 18446744073709551616:=h.at 21 54 (.add 64 (.v 49) (.v 53)) rfl rfl
 have e55:s 55=(s 48+s 54) % 18446744073709551616:=h.at 20 55 (.add 64 (.v 48) (.v 54)) rfl rfl
 have e56:s 56=(s 47+s 55) % 18446744073709551616:=h.at 19 56 (.add 64 (.v 47) (.v 55)) rfl rfl
 have e57:s 57=(s 46+s 56) % 18446744073709551616:=h.at 18 57 (.add 64 (.v 46) (.v 56)) rfl rfl
 have e58:s 58=(s 45+s 57) % 18446744073709551616:=h.at 17 58 (.add 64 (.v 45) (.v 57)) rfl rfl
 have e59:s 59=(s 44+s 8) % 18446744073709551616:=h.at 16 59 (.add 64 (.v 44) (.v 8)) rfl rfl
 have e60:s 60=(s 43+s 59) % 18446744073709551616:=h.at 15 60 (.add 64 (.v 43) (.v 59)) rfl rfl
 have e61:s 61=(s 42+s 60) % 18446744073709551616:=h.at 14 61 (.add 64 (.v 42) (.v 60)) rfl rfl
 have e62:s 62=(s 41+s 61) % 18446744073709551616:=h.at 13 62 (.add 64 (.v 41) (.v 61)) rfl rfl
 have e63:s 63=(s 40+s 62) % 18446744073709551616:=h.at 12 63 (.add 64 (.v 40) (.v 62)) rfl rfl
 have e64:s 64=(s 39+s 63) % 18446744073709551616:=h.at 11 64 (.add 64 (.v 39) (.v 63)) rfl rfl
 have e65:s 65=(s 38+s 64) % 18446744073709551616:=h.at 10 65 (.add 64 (.v 38) (.v 64)) rfl rfl
 have e66:s 66=(s 37+s 16) % 18446744073709551616:=h.at 9 66 (.add 64 (.v 37) (.v 16)) rfl rfl
 have e67:s 67=(s 36+s 66) % 18446744073709551616:=h.at 8 67 (.add 64 (.v 36) (.v 66)) rfl rfl
 have e68:s 68=(s 35+s 67) % 18446744073709551616:=h.at 7 68 (.add 64 (.v 35) (.v 67)) rfl rfl
 have e69:s 69=(s 34+s 68) % 18446744073709551616:=h.at 6 69 (.add 64 (.v 34) (.v 68)) rfl rfl
 have e70:s 70=(s 33+s 69) % 18446744073709551616:=h.at 5 70 (.add 64 (.v 33) (.v 69)) rfl rfl
 have e71:s 71=(s 32+s 70) % 18446744073709551616:=h.at 4 71 (.add 64 (.v 32) (.v 70)) rfl rfl
 have e72:s 72=(s 31+s 71) % 18446744073709551616:=h.at 3 72 (.add 64 (.v 31) (.v 71)) rfl rfl
 have e73:s 73=(s 30+s 24) % 18446744073709551616:=h.at 2 73 (.add 64 (.v 30) (.v 24)) rfl rfl
 have e74:s 74=(s 29+s 73) % 18446744073709551616:=h.at 1 74 (.add 64 (.v 29) (.v 73)) rfl rfl
 have e75:s 75=(s 28+s 74) % 18446744073709551616:=h.at 0 75 (.add 64 (.v 28) (.v 74)) rfl rfl
 clear h
 refine ⟨?_,?_,?_,?_⟩
 ·clear e28 e29 e30 e31 e32 e33 e34 e35 e36 e37 e38 e39 e40 e41 e42 e43 e44 e59 e60 e61 e62 e63 e64 e65 e66 e67 e68 e69 e70 e71 e72 e73 e74 e75 b8 b9 b10 b11 b12 b13 b14 b15 b16 b17 b18 b19 b20 b21 b22 b23 b24 b25 b26 b27
  replace e45:=shl_of e45 b7 (by decide)
  replace e46:=shl_of e46 b6 (by decide)
  replace e47:=shl_of e47 b5 (by decide)
  replace e48:=shl_of e48 b4 (by decide)
  replace e49:=shl_of e49 b3 (by decide)
  replace e50:=shl_of e50 b2 (by decide)
  replace e51:=shl_of e51 b1 (by decide)
  rw [Nat.mod_eq_of_lt (by omega)] at e52
  rw [Nat.mod_eq_of_lt (by omega)] at e53
  rw [Nat.mod_eq_of_lt (by omega)] at e54
  rw [Nat.mod_eq_of_lt (by omega)] at e55
  rw [Nat.mod_eq_of_lt (by omega)] at e56
  rw [Nat.mod_eq_of_lt (by omega)] at e57
  rw [Nat.mod_eq_of_lt (by omega)] at e58
  omega
 ·clear e28 e29 e30 e31 e32 e33 e34 e35 e36 e37 e45 e46 e47 e48 e49 e50 e51 e52 e53 e54 e55 e56 e57 e58 e66 e67 e68 e69 e70 e71 e72 e73 e74 e75 b0 b1 b2 b3 b4 b5 b6 b7 b16 b17 b18 b19 b20 b21 b22 b23 b24 b25 b26 b27
  replace e38:=shl_of e38 b15 (by decide)
  replace e39:=shl_of e39 b14 (by decide)
  replace e40:=shl_of e40 b13 (by decide)
  replace e41:=shl_of e41 b12 (by decide)
  replace e42:=shl_of e42 b11 (by decide)
  replace e43:=shl_of e43 b10 (by decide)
  replace e44:=shl_of e44 b9 (by decide)
  rw [Nat.mod_eq_of_lt (by omega)] at e59
  rw [Nat.mod_eq_of_lt (by omega)] at e60
  rw [Nat.mod_eq_of_lt (by omega)] at e61
  rw [Nat.mod_eq_of_lt (by omega)] at e62
  rw [Nat.mod_eq_of_lt (by omega)] at e63
  rw [Nat.mod_eq_of_lt (by omega)] at e64
  rw [Nat.mod_eq_of_lt (by omega)] at e65
  omega
 ·clear e28 e29 e30 e38 e39 e40 e41 e42 e43 e44 e45 e46 e47 e48 e49 e50 e51 e52 e53 e54 e55 e56 e57 e58 e59 e60 e61 e62 e63 e64 e65 e73 e74 e75 b0 b1 b2 b3 b4 b5 b6 b7 b8 b9 b10 b11 b12 b13 b14 b15 b24 b25 b26 b27
  replace e31:=shl_of e31 b23 (by decide)
  replace e32:=shl_of e32 b22 (by decide)
  replace e33:=shl_of e33 b21 (by decide)
  replace e34:=shl_of e34 b20 (by decide)
  replace e35:=shl_of e35 b19 (by decide)
  replace e36:=shl_of e36 b18 (by decide)
  replace e37:=shl_of e37 b17 (by decide)
  rw [Nat.mod_eq_of_lt (by omega)] at e66
  rw [Nat.mod_eq_of_lt (by omega)] at e67
  rw [Nat.mod_eq_of_lt (by omega)] at e68
  rw [Nat.mod_eq_of_lt (by omega)] at e69
  rw [Nat.mod_eq_of_lt (by omega)] at e70
  rw [Nat.mod_eq_of_lt (by omega)] at e71
  rw [Nat.mod_eq_of_lt (by omega)] at e72
  omega
 ·clear e31 e32 e33 e34 e35 e36 e37 e38 e39 e40 e41 e42 e43 e44 e45 e46 e47 e48 e49 e50 e51 e52 e53 e54 e55 e56 e57 e58 e59 e60 e61 e62 e63 e64 e65 e66 e67 e68 e69 e70 e71 e72 b0 b1 b2 b3 b4 b5 b6 b7 b8 b9 b10 b11 b12 b13 b14 b15 b16 b17 b18 b19 b20 b21 b22 b23
  replace e28:=shl_of e28 b27 (by decide)
  replace e29:=shl_of e29 b26 (by decide)
  replace e30:=shl_of e30 b25 (by decide)
  rw [Nat.mod_eq_of_lt (by omega)] at e73
  rw [Nat.mod_eq_of_lt (by omega)] at e74
  rw [Nat.mod_eq_of_lt (by omega)] at e75
  omega
end P224
