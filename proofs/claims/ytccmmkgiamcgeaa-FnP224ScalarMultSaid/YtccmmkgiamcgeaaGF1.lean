/- The table of types of the program of P-224, and the calls of math/bits by their contracts. -/
import Derived.Test.YtccmmkgiamcgeaaProg
import Derived.KernelRfl
import Derived.Laws.Externs
import Derived.Lib.Mul64
import Derived.Deep.OwnRows
import Derived.Test.YtccmmkgiamcgeaaGE7
set_option linter.all false
namespace P224
open Go Go.RowKit Go.Proofs

def findT {α : Type} (t : Nat) : List (Nat × α) → Option α
  | [] => none
  | (k, x) :: l => bif k == t then some x else findT t l
theorem findT_mem {α : Type} {t : Nat} {x : α} : ∀ {l : List (Nat × α)}, findT t l = some x → (t, x) ∈ l
  | (k, y) :: l, h => by
    rw [findT] at h
    cases hb : (k == t) with
    | true =>
      rw [hb, cond_true] at h
      cases h
      rw [beq_iff_eq.1 hb]
      exact List.mem_cons_self
    | false =>
      rw [hb, cond_false] at h
      exact List.mem_cons_of_mem _ (findT_mem h)

def zeros (n : Nat) (k : IntKind) : List Value := List.replicate n (.int k 0)

def arrL : List (Nat × Nat × Nat) := [(93, 4, 1), (94, 4, 1), (136, 4, 1), (22, 28, 1), (104, 15, 1), (123, 56, 15), (155, 96, 4), (106, 57, 1), (111, 29, 1), (63, 2, 1)]
def fldL : List (Nat × List Nat) := [(96, [0]), (99, [0, 1, 2]), (25, [0, 1, 2, 3]), (35, [0, 1, 2]), (73, [0, 1, 2])]
def varL : List (Nat × Bool × Nat) := [(92, false, 1), (5, false, 1), (91, false, 1), (64, false, 1), (3, false, 1), (2, false, 1), (4, false, 1), (27, false, 1), (33, false, 1), (23, false, 1), (66, false, 1), (94, true, 4), (93, true, 4), (25, true, 4), (35, true, 3), (73, true, 3), (63, true, 2), (104, true, 15)]
def zeroL : List (Nat × List Value) := [(92, zeros 1 .u64), (136, zeros 4 .u64), (96, zeros 4 .u64), (22, zeros 28 .u8), (106, zeros 57 .u8), (111, zeros 29 .u8), (25, [.int .i64 0, .int .i64 0, .int .i64 0, .slice none 0 0]), (35, [.bool false, .slice none 0 0, .slice none 0 0]), (73, [.slice none 0 0, .slice none 0 0, .slice none 0 0]), (63, [.int .i64 0, .int .i64 0]), (104, List.replicate 15 (.pointer none)), (123, List.replicate 840 (.pointer none)), (155, zeros 384 .u64)]
def bldL : List (Nat × List Value) := [(99, [.pointer none, .pointer none, .pointer none]), (25, [.int .i64 0, .int .i64 0, .int .i64 0, .slice none 0 0]), (35, [.bool false, .slice none 0 0, .slice none 0 0]), (73, [.slice none 0 0, .slice none 0 0, .slice none 0 0]), (63, [.int .i64 0, .int .i64 0]), (104, List.replicate 15 (.pointer none)), (122, [.string ⟨#[]⟩])]
def slcL : List (Nat × Nat) := [(27, 1), (33, 1), (32, 1), (23, 2), (85, 1)]
def mkL : List (Nat × Value) := [(27, .int .u8 0), (33, .int .i64 0), (32, .int .i64 0)]
def kindL : List (Nat × IntKind) := [(92, .u64), (146, .u64), (5, .u8), (3, .i64), (2, .i64)]

/-- The table: asElem: are new elements taken as elements, not as words; prims: which calls are met by contract. -/
def tabOf (asElem : Bool) (prims : List (Nat × Prim)) : Tab where
  arr := fun t => findT t arrL
  fld := fun t f => match findT t fldL with
    | some l => l[f]?
    | none => none
  var := fun t => findT t varL
  zero := fun t => findT t zeroL
  bld := fun t => findT t bldL
  slc := fun t => findT t slcL
  mks := fun t => findT t mkL
  kind := fun t => findT t kindL
  elem := fun t => asElem && t == 96
  prim := fun f => findT f prims
  qext := fun _ _ _ _ => none
  lext := fun _ _ _ => none

theorem info_size {P : Program} {t n : Nat} (h : (P.info? t).map (·.size) = some n) : ∃ i, P.info? t = some i ∧ i.size = n := by
  cases hi : P.info? t with
  | none => rw [hi] at h; cases h
  | some i => rw [hi] at h; cases h; exact ⟨i, rfl, rfl⟩

theorem arr_of {P : Program} {t n e z : Nat} (h1 : P.underlying t = some (.array n e)) (h2 : (P.info? e).map (·.size) = some z) :
    ∃ e i, P.underlying t = some (.array n e) ∧ P.info? e = some i ∧ i.size = z := by
  obtain ⟨i, hi, hs⟩ := info_size h2
  exact ⟨e, i, h1, hi, hs⟩

theorem var_of {P : Program} {t n : Nat} {g : Bool} {d : TypeDesc} (h1 : P.underlying t = some d) (hg : (match d with | .struct _ | .array _ _ => true | _ => false) = g) (h2 : (P.info? t).map (·.size) = some n) :
    (∀ w, (isAgg t).run P w = .ok g w) ∧ ∃ i, P.info? t = some i ∧ i.size = n := by
  refine ⟨fun w => ?_, info_size h2⟩
  simp only [isAgg, Sem.run_bind, run_underlying h1, Result.andThen]
  cases d <;> simp only at hg <;> subst hg <;> rfl

theorem zero_of {P : Program} {t : Nat} {l : List Value} (h : (P.info? t).bind (·.zero) = some (.agg l.toArray)) : ∃ i z, P.info? t = some i ∧ i.zero = some z ∧ z.cells = l.toArray := by
  cases hi : P.info? t with
  | none => rw [hi] at h; cases h
  | some i =>
    rw [hi] at h
    exact ⟨i, _, rfl, h, rfl⟩
theorem zero_of1 {P : Program} {t : Nat} {k : IntKind} (h : (P.info? t).bind (·.zero) = some (.int k 0)) : ∃ i z, P.info? t = some i ∧ i.zero = some z ∧ z.cells = (zeros 1 k).toArray := by
  cases hi : P.info? t with
  | none => rw [hi] at h; cases h
  | some i =>
    rw [hi] at h
    exact ⟨i, _, rfl, h, rfl⟩
theorem fld_of {P : Program} {t f d e z : Nat} {fs : Array Field} (h1 : P.underlying t = some (.struct fs)) (h2 : (fs[f]?).map (fun x => (x.offset, x.type)) = some (d, e)) (h3 : (P.info? e).map (·.size) = some z) (hz : z ≠ 0) :
    ∃ fs fd i, P.underlying t = some (.struct fs) ∧ fs[f]? = some fd ∧ fd.offset = d ∧ P.info? fd.type = some i ∧ i.size ≠ 0 := by
  cases hf : fs[f]? with
  | none => rw [hf] at h2; cases h2
  | some fd =>
    rw [hf] at h2
    cases h2
    obtain ⟨i, hi, hs⟩ := info_size h3
    exact ⟨fs, fd, i, h1, hf, rfl, hi, by rw [hs]; exact hz⟩

theorem fill_cells {places : Nat → Option (Nat × Nat)} : ∀ (ps : List (Nat × Value)) (l : List Value), (∀ i, i < l.length → places i = some (i, 1)) → (∀ p ∈ ps, p.1 < l.length ∧ p.2.oneCell' = true) →
    Instr.fill places l.toArray ps = some (setParts l ps).toArray
  | [], l, _, _ => by rw [Instr.fill, setParts]
  | (i, v) :: ps, l, hp, h => by
    obtain ⟨h1, h2⟩ := h (i, v) List.mem_cons_self
    have hc : v.cells = #[v] := by
      revert h2
      generalize v = u
      intro h2
      cases u <;> first | rfl | (cases h2; done)
    rw [Instr.fill, hp i h1]
    simp only at h1
    have hsz : ¬ (v.cells.size ≠ 1 || i + v.cells.size > l.toArray.size) = true := by rw [hc]; simp; omega
    simp only []
    rw [if_neg hsz, hc]
    have := fill_cells ps (l.set i v) (fun j hj => hp j (by simpa using hj)) (fun p hp' => by rw [List.length_set]; exact h p (List.mem_cons_of_mem _ hp'))
    rw [setParts, ← this]
    congr 1
    simp [Array.zipIdx]
theorem built_of {P : Program} {t : TypeId} {it : TypeInfo} {fs : Array Field} {l : List Value} (h1 : P.info? t = some it) (h2 : P.underlying t = some (.struct fs)) (h3 : it.zero = some (.agg l.toArray))
    (h4 : fs.toList.mapM (fun f => (P.info? f.type).map fun i => (f.offset, i.size)) = some ((List.range l.length).map fun i => (i, 1))) (ps : List (Nat × Value)) (hp : ∀ p ∈ ps, p.1 < l.length ∧ p.2.oneCell' = true) :
    P.built t ps = some (setParts l ps).toArray := by
  unfold Program.built
  simp only [h1, h2, h3, h4]
  refine fill_cells ps l (fun i hi => ?_) hp
  simp [hi]
theorem built_arr {P : Program} {t e n : TypeId} {it : TypeInfo} {l : List Value} (h1 : P.info? t = some it) (h2 : P.underlying t = some (.array n e)) (h3 : it.zero = some (.agg l.toArray))
    (h4 : (P.info? e).map (·.size) = some 1) (ps : List (Nat × Value)) (hp : ∀ p ∈ ps, p.1 < l.length ∧ p.2.oneCell' = true) :
    P.built t ps = some (setParts l ps).toArray := by
  obtain ⟨ie, hi, hs⟩ := info_size h4
  unfold Program.built
  simp only [h1, h2, h3, hi, hs]
  exact fill_cells ps l (fun i _ => by simp) hp
theorem slc_of {P : Program} {t e z : Nat} (h1 : P.underlying t = some (.slice e)) (h2 : (P.info? e).map (·.size) = some z) : ∃ e i, P.underlying t = some (.slice e) ∧ P.info? e = some i ∧ i.size = z := by
  obtain ⟨i, hi, hs⟩ := info_size h2
  exact ⟨e, i, h1, hi, hs⟩
theorem zero_info {P : Program} {t : Nat} {l : List Value} (h : (P.info? t).bind (·.zero) = some (.agg l.toArray)) : ∃ i, P.info? t = some i ∧ i.zero = some (.agg l.toArray) := by
  cases hi : P.info? t with
  | none => rw [hi] at h; cases h
  | some i => rw [hi] at h; exact ⟨i, rfl, h⟩

theorem made_replicate (z : Value) (n : Nat) : madeCells #[z] n = (List.replicate n z).toArray := by
  have h : ∀ x : Nat, ([z][x % 1]?.getD default) = z := fun x => by rw [Nat.mod_one]; rfl
  simp [madeCells, h, Array.map_const']
theorem Try.mixed : Try.prog.follows .mixedOrders = true := by kernel_rfl

theorem tab_ok (asElem : Bool) (prims : List (Nat × Prim)) (hp : ∀ f p, (f, p) ∈ prims → PrimOk Try.prog f p) : (tabOf asElem prims).Ok Try.prog where
  mixed := Try.mixed
  arr := by
    intro t n z h
    have := findT_mem h
    simp only [arrL, List.mem_cons, List.not_mem_nil, or_false, Prod.mk.injEq] at this
    rcases this with h | h | h | h | h | h | h | h | h | h <;> obtain ⟨rfl, rfl, rfl⟩ := h
    · exact arr_of Try.underlying93 (by kernel_rfl)
    · exact arr_of Try.underlying94 (by kernel_rfl)
    · exact arr_of Try.underlying136 (by kernel_rfl)
    · exact arr_of Try.underlying22 (by kernel_rfl)
    · exact arr_of Try.underlying104 (by kernel_rfl)
    · exact arr_of Try.underlying123 (by kernel_rfl)
    · exact arr_of Try.underlying155 (by kernel_rfl)
    · exact arr_of Try.underlying106 (by kernel_rfl)
    · exact arr_of Try.underlying111 (by kernel_rfl)
    · exact arr_of Try.underlying63 (by kernel_rfl)
  fld := by
    intro t f d h
    have h' : (match findT t fldL with | some l => l[f]? | none => none) = some d := h
    split at h'
    · rename_i l hl
      have := findT_mem hl
      simp only [fldL, List.mem_cons, List.not_mem_nil, or_false, Prod.mk.injEq] at this
      rcases this with h | h | h | h | h <;> obtain ⟨rfl, rfl⟩ := h
      · match f, h' with
        | 0, h' => cases h'; exact fld_of (z := 4) Try.underlying96 rfl (by kernel_rfl) (by decide)
      · match f, h' with
        | 0, h' => cases h'; exact fld_of (z := 1) Try.underlying99 rfl (by kernel_rfl) (by decide)
        | 1, h' => cases h'; exact fld_of (z := 1) Try.underlying99 rfl (by kernel_rfl) (by decide)
        | 2, h' => cases h'; exact fld_of (z := 1) Try.underlying99 rfl (by kernel_rfl) (by decide)
      · match f, h' with
        | 0, h' => cases h'; exact fld_of (z := 1) Try.underlying25 rfl (by kernel_rfl) (by decide)
        | 1, h' => cases h'; exact fld_of (z := 1) Try.underlying25 rfl (by kernel_rfl) (by decide)
        | 2, h' => cases h'; exact fld_of (z := 1) Try.underlying25 rfl (by kernel_rfl) (by decide)
        | 3, h' => cases h'; exact fld_of (z := 1) Try.underlying25 rfl (by kernel_rfl) (by decide)
      · match f, h' with
        | 0, h' => cases h'; exact fld_of (z := 1) Try.underlying35 rfl (by kernel_rfl) (by decide)
        | 1, h' => cases h'; exact fld_of (z := 1) Try.underlying35 rfl (by kernel_rfl) (by decide)
        | 2, h' => cases h'; exact fld_of (z := 1) Try.underlying35 rfl (by kernel_rfl) (by decide)
      · match f, h' with
        | 0, h' => cases h'; exact fld_of (z := 1) Try.underlying73 rfl (by kernel_rfl) (by decide)
        | 1, h' => cases h'; exact fld_of (z := 1) Try.underlying73 rfl (by kernel_rfl) (by decide)
        | 2, h' => cases h'; exact fld_of (z := 1) Try.underlying73 rfl (by kernel_rfl) (by decide)
    · cases h'
  var := by
    intro t g n h
    have := findT_mem h
    simp only [varL, List.mem_cons, List.not_mem_nil, or_false, Prod.mk.injEq] at this
    rcases this with h | h | h | h | h | h | h | h | h | h | h | h | h | h | h | h | h | h <;> obtain ⟨rfl, rfl, rfl⟩ := h
    · exact var_of Try.underlying92 rfl (by kernel_rfl)
    · exact var_of Try.underlying5 rfl (by kernel_rfl)
    · exact var_of Try.underlying91 rfl (by kernel_rfl)
    · exact var_of Try.underlying64 rfl (by kernel_rfl)
    · exact var_of Try.underlying3 rfl (by kernel_rfl)
    · exact var_of Try.underlying2 rfl (by kernel_rfl)
    · exact var_of Try.underlying4 rfl (by kernel_rfl)
    · exact var_of Try.underlying27 rfl (by kernel_rfl)
    · exact var_of Try.underlying33 rfl (by kernel_rfl)
    · exact var_of Try.underlying23 rfl (by kernel_rfl)
    · exact var_of Try.underlying66 rfl (by kernel_rfl)
    · exact var_of Try.underlying94 rfl (by kernel_rfl)
    · exact var_of Try.underlying93 rfl (by kernel_rfl)
    · exact var_of Try.underlying25 rfl (by kernel_rfl)
    · exact var_of Try.underlying35 rfl (by kernel_rfl)
    · exact var_of Try.underlying73 rfl (by kernel_rfl)
    · exact var_of Try.underlying63 rfl (by kernel_rfl)
    · exact var_of Try.underlying104 rfl (by kernel_rfl)
  zero := by
    intro t l h
    have := findT_mem h
    simp only [zeroL, List.mem_cons, List.not_mem_nil, or_false, Prod.mk.injEq] at this
    rcases this with h | h | h | h | h | h | h | h | h | h | h | h | h <;> obtain ⟨rfl, rfl⟩ := h
    · exact zero_of1 (by kernel_rfl)
    · exact zero_of (by kernel_rfl)
    · exact zero_of (by kernel_rfl)
    · exact zero_of (by kernel_rfl)
    · exact zero_of (by kernel_rfl)
    · exact zero_of (by kernel_rfl)
    · exact zero_of (by kernel_rfl)
    · exact zero_of (by kernel_rfl)
    · exact zero_of (by kernel_rfl)
    · exact zero_of (by kernel_rfl)
    · exact zero_of (by kernel_rfl)
    · exact zero_of (by kernel_rfl)
    · exact zero_of (by kernel_rfl)
  bld := by
    intro t l h ps hp
    have := findT_mem h
    simp only [bldL, List.mem_cons, List.not_mem_nil, or_false, Prod.mk.injEq] at this
    rcases this with h | h | h | h | h | h | h <;> obtain ⟨rfl, rfl⟩ := h
    · obtain ⟨it, h1, h2⟩ := zero_info (P := Try.prog) (t := 99) (l := [.pointer none, .pointer none, .pointer none]) (by kernel_rfl)
      exact built_of h1 Try.underlying99 h2 (by kernel_rfl) ps hp
    · obtain ⟨it, h1, h2⟩ := zero_info (P := Try.prog) (t := 25) (l := [.int .i64 0, .int .i64 0, .int .i64 0, .slice none 0 0]) (by kernel_rfl)
      exact built_of h1 Try.underlying25 h2 (by kernel_rfl) ps hp
    · obtain ⟨it, h1, h2⟩ := zero_info (P := Try.prog) (t := 35) (l := [.bool false, .slice none 0 0, .slice none 0 0]) (by kernel_rfl)
      exact built_of h1 Try.underlying35 h2 (by kernel_rfl) ps hp
    · obtain ⟨it, h1, h2⟩ := zero_info (P := Try.prog) (t := 73) (l := [.slice none 0 0, .slice none 0 0, .slice none 0 0]) (by kernel_rfl)
      exact built_of h1 Try.underlying73 h2 (by kernel_rfl) ps hp
    · obtain ⟨it, h1, h2⟩ := zero_info (P := Try.prog) (t := 63) (l := [.int .i64 0, .int .i64 0]) (by kernel_rfl)
      exact built_arr h1 Try.underlying63 h2 (by kernel_rfl) ps hp
    · obtain ⟨it, h1, h2⟩ := zero_info (P := Try.prog) (t := 104) (l := List.replicate 15 (.pointer none)) (by kernel_rfl)
      exact built_arr h1 Try.underlying104 h2 (by kernel_rfl) ps hp
    · obtain ⟨it, h1, h2⟩ := zero_info (P := Try.prog) (t := 122) (l := [.string ⟨#[]⟩]) (by kernel_rfl)
      exact built_of h1 Try.underlying122 h2 (by kernel_rfl) ps hp
  slc := by
    intro t z h
    have := findT_mem h
    simp only [slcL, List.mem_cons, List.not_mem_nil, or_false, Prod.mk.injEq] at this
    rcases this with h | h | h | h | h <;> obtain ⟨rfl, rfl⟩ := h
    · exact slc_of Try.underlying27 (by kernel_rfl)
    · exact slc_of Try.underlying33 (by kernel_rfl)
    · exact slc_of Try.underlying32 (by kernel_rfl)
    · exact slc_of Try.underlying23 (by kernel_rfl)
    · exact slc_of Try.underlying85 (by kernel_rfl)
  mks := by
    intro t z h n w hn
    have := findT_mem h
    simp only [mkL, List.mem_cons, List.not_mem_nil, or_false, Prod.mk.injEq] at this
    rcases this with h | h | h <;> obtain ⟨rfl, rfl⟩ := h
    · refine ⟨5, ?_⟩
      rw [run_make_row' 27 _ (.int .u8 0) 1 Try.underlying27 (by kernel_rfl) rfl .i64 .i64 n (by omega) (by omega) w, made_replicate]
    · refine ⟨2, ?_⟩
      rw [run_make_row' 33 _ (.int .i64 0) 8 Try.underlying33 (by kernel_rfl) rfl .i64 .i64 n (by omega) (by omega) w, made_replicate]
    · refine ⟨2, ?_⟩
      rw [run_make_row' 32 _ (.int .i64 0) 8 Try.underlying32 (by kernel_rfl) rfl .i64 .i64 n (by omega) (by omega) w, made_replicate]
  kind := by
    intro t k h
    have := findT_mem h
    simp only [kindL, List.mem_cons, List.not_mem_nil, or_false, Prod.mk.injEq] at this
    rcases this with h | h | h | h | h <;> obtain ⟨rfl, rfl⟩ := h
    · exact Try.underlying92
    · exact Try.underlying146
    · exact Try.underlying5
    · exact Try.underlying3
    · exact Try.underlying2
  elem := by
    intro t h
    have h' : (asElem && t == 96) = true := h
    simp only [Bool.and_eq_true, beq_iff_eq] at h'
    rw [h'.2]
    rfl
  prim := fun f p h => hp f p (findT_mem h)
  qext := fun _ h => by cases h
  lext := ⟨fun h => (by cases h), fun _ h => (by cases h)⟩

/-! ### math/bits.Add64, Sub64 -/
theorem meets_extern {P : Program} {f : FuncId} {args : Array Value} {w : World} {v : Value} {R : Value → World → Prop} (h : (callFunc f args).run P w = .ok (.value v) w) (hR : R v w) : Meets P f args w R := by
  intro o a next Q hn
  rw [h]
  exact hn v w hR

theorem call_add64 (x y c : Nat) (hc : c ≤ 1) (w : World) : (callFunc 120 #[.int .u64 x, .int .u64 y, .int .u64 c]).run Try.prog w =
    .ok (.value (.tuple #[.int .u64 (((x + y + c) % 2 ^ 64 : Nat) : Int), .int .u64 (((x + y + c) / 2 ^ 64 : Nat) : Int)])) w := by
  rw [run_callFunc_extern Try.func120 (by kernel_rfl) (by kernel_rfl) (by kernel_rfl) (e := add64Entry) (by kernel_rfl), run_add64 x y c (by omega) (by omega) (by omega) (by omega)]
  simp only [Result.andThen]
  congr 5 <;> omega

set_option maxRecDepth 100000 in
theorem meets_add64 (x y c : Nat) (hc : c ≤ 1) (w : World) : Meets Try.prog 120 #[.int .u64 (x : Int), .int .u64 (y : Int), .int .u64 (c : Int)] w fun v w' =>
    v = .tuple #[.int .u64 (((x + y + c) % 2 ^ 64 : Nat) : Int), .int .u64 (((x + y + c) / 2 ^ 64 : Nat) : Int)] ∧ Below w.heap.size w w' :=
  meets_extern (call_add64 x y c hc w) ⟨rfl, Below.refl _ _⟩

set_option maxRecDepth 100000 in
theorem prim_add64 : PrimOk Try.prog 120 .add64 := by
  unfold PrimOk
  intro x y c w _ _ hc
  exact meets_add64 x y c hc w

def sub64Row : Array Value → Sem Value := fun args => do
  let (x, y, b) ← Extern.MathBitsCarry.three "Sub64" args
  pure (Extern.MathBitsCarry.pair ((x + Extern.MathBitsCarry.m64 - y - b) % Extern.MathBitsCarry.m64) (if x < y + b then 1 else 0))
theorem run_sub64Row {P : Program} (x y b : Nat) (hb : b ≤ 1) (w : World) :
    (sub64Row #[.int .u64 x, .int .u64 y, .int .u64 b]).run P w =
      .ok (.tuple #[.int .u64 (((x + 18446744073709551616 - y - b) % 18446744073709551616 : Nat) : Int), .int .u64 ((if x < y + b then 1 else 0 : Nat) : Int)]) w := by
  have : b = 0 ∨ b = 1 := by omega
  rcases this with rfl | rfl <;> rfl

theorem call_sub64 (x y c : Nat) (hc : c ≤ 1) (w : World) : (callFunc 121 #[.int .u64 x, .int .u64 y, .int .u64 c]).run Try.prog w =
    .ok (.value (.tuple #[.int .u64 (((x + 2 ^ 64 - y - c) % 2 ^ 64 : Nat) : Int), .int .u64 (((if x < y + c then 1 else 0) : Nat) : Int)])) w := by
  rw [run_callFunc_extern Try.func121 (by kernel_rfl) (by kernel_rfl) (by kernel_rfl) (e := sub64Row) (by kernel_rfl), run_sub64Row x y c hc]
  rfl

set_option maxRecDepth 100000 in
theorem meets_sub64 (x y c : Nat) (hc : c ≤ 1) (w : World) : Meets Try.prog 121 #[.int .u64 (x : Int), .int .u64 (y : Int), .int .u64 (c : Int)] w fun v w' =>
    v = .tuple #[.int .u64 (((x + 2 ^ 64 - y - c) % 2 ^ 64 : Nat) : Int), .int .u64 (((if x < y + c then 1 else 0) : Nat) : Int)] ∧ Below w.heap.size w w' :=
  meets_extern (call_sub64 x y c hc w) ⟨rfl, Below.refl _ _⟩

set_option maxRecDepth 100000 in
theorem prim_sub64 : PrimOk Try.prog 121 .sub64 := by
  unfold PrimOk
  intro x y c w _ _ hc
  exact meets_sub64 x y c hc w

end P224
/- Runs of the executor told in brief; math/bits.Mul64 and the conditional move. -/
namespace P224
open Go Go.RowKit Go.Proofs
set_option maxRecDepth 100000

/-- A run in brief: how it ends, how many numbers, what they are, the stores, some temporaries. -/
def brief (ts : List Nat) (r : Option (Out × St)) : Option (Out × Nat × List Ex × List (Nat × Nat × A0) × List (Option AV)) :=
  match r with
  | some (o, st) => some (o, st.nx, st.exs, st.out, ts.map st.tm.get)
  | none => none

theorem brief_spec {ts : List Nat} {r : Option (Out × St)} {o : Out} {nx : Nat} {exs : List Ex} {out : List (Nat × Nat × A0)} {avs : List (Option AV)} (h : brief ts r = some (o, nx, exs, out, avs)) :
    ∃ st, r = some (o, st) ∧ st.nx = nx ∧ st.exs = exs ∧ st.out = out ∧ ts.map st.tm.get = avs := by
  unfold brief at h
  split at h
  · cases h
    exact ⟨_, rfl, rfl, rfl, rfl, rfl⟩
  · cases h

/-- The run over a function's body. -/
def runF (T : Tab) (F : Fix) (fuel : Nat) (fn : Func) (st : St) : Option (Out × St) :=
  match fn.body with
  | some c => run T F fuel c st
  | none => none

def pureFix (nt : Nat) : Fix := { nt := nt, nold := 0, wr := fun _ => false, sep := fun _ _ => false, dec := fun _ => none }
/-- The regions 0 .. n - 1 came in; the first w of them may be written; none is known to lie apart. -/
def regFix (nt n w : Nat) : Fix := { nt := nt, nold := n, wr := fun r => decide (r < w), sep := fun _ _ => false, dec := fun _ => none }

def st119 : St := startSt [.one (.num .u64 0), .one (.num .u64 1)] [] 2 0
def st122 : St := startSt [.one (.ptr 0 0), .one (.bit .u64 0), .one (.num .u64 1), .one (.num .u64 2)] [(0, [.any])] 3 1

def ex119 : List Ex := [
.mul 64 (.v 0) (.v 1),
.add 64 (.v 15) (.v 16),
.shr 32 (.v 13),
.add 64 (.v 14) (.v 11),
.mul 64 (.v 3) (.v 5),
.add 64 (.v 10) (.v 12),
.mul 64 (.v 2) (.v 5),
.shr 32 (.v 9),
.and (.v 9) (.c 4294967295),
.add 64 (.v 7) (.v 8),
.shr 32 (.v 6),
.mul 64 (.v 3) (.v 4),
.mul 64 (.v 2) (.v 4),
.shr 32 (.v 1),
.and (.v 1) (.c 4294967295),
.shr 32 (.v 0),
.and (.v 0) (.c 4294967295)]

theorem run119 : brief [4, 5] (runF (tabOf false []) (pureFix 51) 1000 Try.f119 st119) = some (.ret, 19, ex119, [], [some (.one (.num .u64 17)), some (.one (.num .u64 18))]) := by kernel_rfl

theorem and_low (a : Nat) : a &&& 4294967295 = a % 4294967296 := Nat.and_two_pow_sub_one_eq_mod a 32

theorem holds119 {s : Nums} (h : Holds s 19 ex119) (hx : s 0 < 18446744073709551616) (hy : s 1 < 18446744073709551616) :
    s 17 = s 0 * s 1 / 18446744073709551616 ∧ s 18 = s 0 * s 1 % 18446744073709551616 := by
  simp only [ex119, Holds, Ex.val, Wd.val, Nat.reduceSub, Nat.reducePow, and_low] at h
  obtain ⟨h18, h17, h16, h15, h14, h13, h12, h11, h10, h9, h8, h7, h6, h5, h4, h3, h2, _⟩ := h
  refine ⟨?_, h18⟩
  obtain ⟨bd, bt, bw, hhi⟩ := Lib.mul64_hi (s 0) (s 1) hx hy
  have ba := Lib.half_mul_le (a := s 0 / 4294967296) (b := s 1 / 4294967296) (by omega) (by omega)
  have bb := Lib.half_mul_le (a := s 0 / 4294967296) (b := s 1 % 4294967296) (by omega) (by omega)
  have bc := Lib.half_mul_le (a := s 0 % 4294967296) (b := s 1 / 4294967296) (by omega) (by omega)
  rw [h2, h4, Nat.mod_eq_of_lt bd] at h6
  rw [h3, h4, Nat.mod_eq_of_lt (by omega)] at h7
  rw [h6] at h8
  rw [h7, h8, Nat.mod_eq_of_lt bt] at h9
  rw [h9] at h10 h11
  rw [h2, h5, Nat.mod_eq_of_lt (by omega)] at h12
  rw [h10, h12, Nat.mod_eq_of_lt bw] at h13
  rw [h3, h5, Nat.mod_eq_of_lt (by omega)] at h14
  rw [h14, h11, Nat.mod_eq_of_lt (by omega)] at h15
  rw [h13] at h16
  rw [h15, h16, Nat.mod_eq_of_lt (by omega)] at h17
  rw [h17]
  exact hhi

theorem calls_of_runF {T : Tab} {F : Fix} {fuel : Nat} {fn : Func} {st : St} {x : Out × St} (h : runF T F fuel fn st = some x) : ∃ c, fn.body = some c ∧ run T F fuel c st = some x := by
  unfold runF at h
  split at h
  · rename_i c hc; exact ⟨c, hc, h⟩
  · cases h

theorem map_get {st : St} : ∀ {ts : List Nat} {avs : List (Option AV)}, ts.map st.tm.get = avs → ∀ (j t : Nat) (av : AV), ts[j]? = some t → avs[j]? = some (some av) → st.tm.get t = some av := by
  intro ts avs h j t av h1 h2
  rw [← h, List.getElem?_map, h1] at h2
  simpa using h2

theorem prim_mul64 : PrimOk Try.prog 119 .mul64 := by
  unfold PrimOk
  intro x y w hx hy
  refine meets_of_calls Try.func119 (by kernel_rfl) (by kernel_rfl) ?_
  obtain ⟨st', hrun, hnx, hexs, hout, hts⟩ := brief_spec run119
  obtain ⟨c, hc, hrun⟩ := calls_of_runF hrun
  obtain ⟨s, hH, hs0⟩ := exists_nums (fun i => if i = 0 then x else y) (l := ex119) (n := 19) (by decide) (by decide)
  have h0 : s 0 = x := hs0 0 (by decide)
  have h1 : s 1 = y := hs0 1 (by decide)
  have hstart : Rel (pureFix 51) s (fun _ => (0, 0)) w st119 { tmps := [Value.int .u64 (x : Int), .int .u64 (y : Int)].toArray ++ Array.replicate (Try.f119.ntmps - [Value.int .u64 (x : Int), .int .u64 (y : Int)].toArray.size) undef, defers := [] } w := by
    refine rel_start rfl Try.ntmps119 (by decide) (by decide) ?_ (fun r l h => by cases h) (fun r l h => by cases h) (fun r h => absurd h (Nat.not_lt_zero r)) (fun r q h => absurd h (Nat.not_lt_zero r)) (fun i b h => by cases h)
    intro j z v hz hv
    match j, hz, hv with
    | 0, hz, hv => cases hz; cases hv; exact ⟨by rw [h0], by rw [h0]; exact hx⟩
    | 1, hz, hv => cases hz; cases hv; exact ⟨by rw [h1], by rw [h1]; exact hy⟩
  refine calls_run2 (T := tabOf false []) (t := 4) (u := 5) (tab_ok _ _ (fun _ _ h => by cases h)) Try.func119 hc (.inr rfl) Try.results119 hstart hrun (by rw [hnx, hexs]; exact hH) ?_
  intro β' a' w' _ hr
  have r4 := hr.tm 4 _ (map_get hts 0 4 _ rfl rfl)
  have r5 := hr.tm 5 _ (map_get hts 1 5 _ rfl rfl)
  obtain ⟨e17, e18⟩ := holds119 hH (by rw [h0]; exact hx) (by rw [h1]; exact hy)
  have hb := hr.below
  rw [hout] at hb
  refine ⟨_, rfl, ?_, hb⟩
  rw [r4.1, r5.1, e17, e18, h0, h1]

def ex122 : List Ex := [
.or (.v 4) (.v 6),
.and (.v 5) (.v 1),
.not 64 (.v 3),
.and (.v 3) (.v 2),
.mul 64 (.v 0) (.c 18446744073709551615)]

theorem run122 : brief [] (runF (tabOf false []) (regFix 23 1 1) 1000 Try.f122 st122) = some (.normal, 8, ex122, [(0, 0, .num .u64 7)], []) := by kernel_rfl

theorem holds122 {s : Nums} (h : Holds s 8 ex122) (hc : s 0 ≤ 1) (hx : s 1 < 2 ^ 64) (hy : s 2 < 2 ^ 64) : s 7 = if s 0 = 0 then s 1 else s 2 := by
  simp only [ex122, Holds, Ex.val, Wd.val, Nat.reduceSub] at h
  obtain ⟨h7, h6, h5, h4, h3, _⟩ := h
  have ones : ∀ a : Nat, a < 2 ^ 64 → (2 ^ 64 - 1) &&& a = a := fun a ha => by
    rw [Nat.and_comm, Nat.and_two_pow_sub_one_eq_mod, Nat.mod_eq_of_lt ha]
  have : s 0 = 0 ∨ s 0 = 1 := by omega
  rcases this with h0 | h0
  · rw [h0, Nat.zero_mul, Nat.zero_mod] at h3
    rw [h3, Nat.zero_and] at h4
    rw [h3, Nat.xor_zero] at h5
    rw [h5, ones _ hx] at h6
    rw [h7, h4, h6, h0, Nat.zero_or, if_pos rfl]
  · rw [h0] at h3
    have h3' : s 3 = 2 ^ 64 - 1 := h3
    rw [h3', ones _ hy] at h4
    rw [h3', Nat.xor_self] at h5
    rw [h5, Nat.zero_and] at h6
    rw [h7, h4, h6, h0, Nat.or_zero, if_neg (by decide)]

theorem prim_cmov : PrimOk Try.prog 122 .cmov := by
  unfold PrimOk
  intro b o c x y w hb0 hc hx hy hcell hfz
  refine meets_of_calls Try.func122 (by kernel_rfl) (by kernel_rfl) ?_
  obtain ⟨st', hrun, hnx, hexs, hout, hts⟩ := brief_spec run122
  obtain ⟨cd, hcd, hrun⟩ := calls_of_runF hrun
  obtain ⟨s, hH, hs0⟩ := exists_nums (fun i => if i = 0 then c else if i = 1 then x else y) (l := ex122) (n := 8) (by decide) (by decide)
  have h0 : s 0 = c := hs0 0 (by decide)
  have h1 : s 1 = x := hs0 1 (by decide)
  have h2 : s 2 = y := hs0 2 (by decide)
  obtain ⟨cv, hcv⟩ := hcell
  have hstart : Rel (regFix 23 1 1) s (fun _ => (b, o)) w st122 { tmps := [ptrTo b o, Value.int .u64 (c : Int), .int .u64 (x : Int), .int .u64 (y : Int)].toArray ++ Array.replicate (Try.f122.ntmps - [ptrTo b o, Value.int .u64 (c : Int), .int .u64 (x : Int), .int .u64 (y : Int)].toArray.size) undef, defers := [] } w := by
    refine rel_start rfl Try.ntmps122 (by decide) (by decide) ?_ ?_ ?_ (fun r _ => hb0) (fun r q _ _ h => by cases h) (fun i b h => by cases h)
    · intro j z v hz hv
      match j, hz, hv with
      | 0, hz, hv => cases hz; cases hv; exact ⟨rfl, Nat.one_pos⟩
      | 1, hz, hv => cases hz; cases hv; exact ⟨by rw [h0], by rw [h0]; exact hc⟩
      | 2, hz, hv => cases hz; cases hv; exact ⟨by rw [h1], by rw [h1]; exact hx⟩
      | 3, hz, hv => cases hz; cases hv; exact ⟨by rw [h2], by rw [h2]; exact hy⟩
    · intro r l hl
      have := lookup_mem hl
      simp only [List.mem_cons, List.not_mem_nil, or_false, Prod.mk.injEq] at this
      obtain ⟨rfl, rfl⟩ := this
      refine ⟨Nat.one_pos, fun j z hz => ?_⟩
      match j, hz with
      | 0, hz => exact ⟨cv, hcv, by cases hz; trivial⟩
    · intro r l hl _ j hj
      have := lookup_mem hl
      simp only [List.mem_cons, List.not_mem_nil, or_false, Prod.mk.injEq] at this
      obtain ⟨rfl, rfl⟩ := this
      match j, hj with
      | 0, _ => exact hfz
  refine calls_run (T := tabOf false []) (res := none) (tab_ok _ _ (fun _ _ h => by cases h)) Try.func122 hcd ⟨.inl rfl, Try.results122⟩ hstart hrun (by rw [hnx, hexs]; exact hH) ?_
  intro β' a' w' hag hr
  have e7 := holds122 hH (by rw [h0]; exact hc) (by rw [h1]; exact hx) (by rw [h2]; exact hy)
  have hb := hr.below
  rw [hout] at hb
  refine ⟨_, rfl, ?_⟩
  have e : applyOut s β' w [(0, 0, A0.num .u64 7)] = w.setCell ⟨b, o, none⟩ (.int .u64 (((if c = 0 then x else y) : Nat) : Int)) := by
    show w.setCell (at_ β' 0 0) (.int .u64 (s 7 : Int)) = _
    rw [at_, hag 0 Nat.one_pos, e7, h0, h1, h2]
    rfl
  rw [e] at hb
  exact hb

def wordPrims : List (Nat × Prim) := [(119, .mul64), (120, .add64), (121, .sub64), (122, .cmov)]
theorem tabW_ok : (tabOf false wordPrims).Ok Try.prog := tab_ok _ _ fun f p h => by
  simp only [wordPrims, List.mem_cons, List.not_mem_nil, or_false, Prod.mk.injEq] at h
  rcases h with h | h | h | h <;> obtain ⟨rfl, rfl⟩ := h
  · exact prim_mul64
  · exact prim_add64
  · exact prim_sub64
  · exact prim_cmov

end P224
