/- An executor of straight code over numbers with names: it runs a function's text with its words as numbered unknowns, and lists what each of them is. This text: the executor. -/
import Derived.Test.YtccmmkgiamcgeaaGM1
import Derived.OrdersHeld
import Derived.LoopN
import Derived.Below
import Derived.Laws.Sem
import Derived.Laws.Entries
import Derived.Laws.BitsAll
import Derived.Laws.IdiomCopy
set_option linter.all false
namespace P224
open Go

/-- The prime of the curve, once more. -/
def pq : Nat := 26959946667150639794667015087019630673557916260026308143510066298881
/-- The constant of the curve, as a number. -/
def bq : Nat := 18958286285566608000408668544493926415504680968679321075787234672564
/-- The power that is the inverse. -/
def finvq (x : Nat) : Nat := x ^ (pq - 2) % pq
theorem finvq_def (x : Nat) : finvq x = x ^ (pq - 2) % pq := rfl
attribute [irreducible] finvq
/-- Word k of an element's number in its stored form. -/
def lim (k v : Nat) : Nat := v * 2 ^ 256 % pq / 2 ^ (64 * k) % 2 ^ 64

/-- Word k of 64 bits, byte k of a number. -/
def dg (k x : Nat) : Nat := x / 2 ^ (64 * k) % 2 ^ 64
def by8 (k x : Nat) : Nat := x / 256 ^ k % 256

/-- A power, as a number. -/
def powq (x e : Nat) : Nat := x ^ e % pq
theorem powq_def (x e : Nat) : powq x e = x ^ e % pq := rfl
attribute [irreducible] powq

/-- A word: an unknown or a constant; a word of 32 bits, a byte of a number. -/
inductive Wd where
  | v (i : Nat)
  | c (n : Nat)
  | w (i k : Nat)
  | b (i k : Nat)
deriving DecidableEq
def Wd.val (s : Nat → Nat) : Wd → Nat
  | .v i => s i
  | .c n => n
  | .w i k => s i / 2 ^ (32 * k) % 2 ^ 32
  | .b i k => by8 k (s i)

/-- A number of 64 bits as a signed one. -/
def sgn (u : Nat) : Int := if u < 2 ^ 63 then (u : Int) else (u : Int) - 2 ^ 64
/-- The signed quotient by a power of two, rounded down. -/
def sarN (n u : Nat) : Nat := if u < 2 ^ 63 then u / 2 ^ n else 2 ^ 64 - 1 - (2 ^ 64 - 1 - u) / 2 ^ n
/-- The sum of words of 32 bits (signed ones) at their places. -/
def sumW : List Nat → Int
  | [] => 0
  | u :: l => sgn u + 2 ^ 32 * sumW l
def smallW (l : List Nat) : Bool := l.all fun u => decide (u < 2 ^ 56) || decide (2 ^ 64 - 2 ^ 56 ≤ u)
/-- The number of bytes, the highest first. -/
def ofBytes : List Nat → Nat
  | [] => 0
  | x :: l => x * 256 ^ l.length + ofBytes l
/-- What the other operations are, by number. -/
def opVal : Nat → List Nat → Nat
  | 0, l => (sumW l % (pq : Int)).toNat
  | 1, l => if smallW l then 1 else 0
  | 2, l => ofBytes l
  | 3, [x, y] => if sgn x < sgn y then 1 else 0
  | 4, [x, y] => if x < y then 1 else 0
  | 5, [n, x] => sarN n x
  | 6, [x, e] => powq x e
  | 7, l => (sumW l % 2 ^ 224).toNat
  | 8, l => ((sumW l / 2 ^ 224) % 2 ^ 64).toNat
  | 9, [x] => if x = 0 then 1 else 0
  | 10, [x, y] => if x ≤ y then 1 else 0
  | 11, l => if ofBytes (l.take 28) ≤ ofBytes (l.drop 28) then 1 else 0
  | 12, [x, y] => x * y % pq
  | 13, [x, y] => (x + y) % pq
  | 14, [x, y] => (((x : Int) - y) % (pq : Int)).toNat
  | 15, [x1, y1, z1, x2, y2, z2] => sxN pq bq x1 y1 z1 x2 y2 z2
  | 16, [x1, y1, z1, x2, y2, z2] => syN pq bq x1 y1 z1 x2 y2 z2
  | 17, [x1, y1, z1, x2, y2, z2] => szN pq bq x1 y1 z1 x2 y2 z2
  | 18, [y1, z1] => 8 * (y1 * y1 * y1) * z1 % pq
  | 19, l => if l.take (l.length / 2) = l.drop (l.length / 2) then 1 else 0
  | 20, [x, y] => onN x y
  | 21, [x1, y1, x2, y2] => farOf (addN x1 y1 x2 y2)
  | 22, [x1, y1, x2, y2] => xOf (addN x1 y1 x2 y2)
  | 23, [x1, y1, x2, y2] => yOf (addN x1 y1 x2 y2)
  | 24, [x, z] => x * finvq z % pq
  | 25, [x, y, k] => farOf (mulN x y k)
  | 26, [x, y, k] => xOf (mulN x y k)
  | 27, [x, y, k] => yOf (mulN x y k)
  | 28, [x, n] => x % n
  | 29, n :: l => l.getD n 0
  | 30, [x, y] => (x + y) % 2 ^ 224
  | 31, [x, y] => if x + y < 2 ^ 224 then 1 else 0
  | 32, [x, k] => by8 k x
  | 33, [x, n] => x / n
  | _, _ => 0

/-- Are bytes those of a point? -/
def isPt (l : List Nat) : Nat :=
  if l = [0] then 1 else if l.length = 57 ∧ l.head? = some 4 ∧ ofBytes ((l.drop 1).take 28) < pq ∧ ofBytes (l.drop 29) < pq then onN (ofBytes ((l.drop 1).take 28)) (ofBytes (l.drop 29)) else 0

/-- What a new number is. -/
inductive Ex where
  | mulh (x y : Wd)
  | mull (x y : Wd)
  | adds (x y z : Wd)
  | addc (x y z : Wd)
  | subs (x y z : Wd)
  | subb (x y z : Wd)
  | add (b : Nat) (x y : Wd)
  | mul (b : Nat) (x y : Wd)
  | and (x y : Wd)
  | or (x y : Wd)
  | not (b : Nat) (x : Wd)
  | shl (b n : Nat) (x : Wd)
  | shr (n : Nat) (x : Wd)
  | low (b : Nat) (x : Wd)
  | sel (c x y : Wd)
  | fcst (n : Nat)
  | fmul (x y : Wd)
  | fadd (x y : Wd)
  | fsub (x y : Wd)
  | finv (x : Wd)
  | feq (x y : Wd)
  | fne (x y : Wd)
  | xor (x y : Wd)
  | sub (b : Nat) (x y : Wd)
  | op (c : Nat) (l : List Wd)
deriving DecidableEq
def Ex.val (s : Nat → Nat) : Ex → Nat
  | .mulh x y => x.val s * y.val s / 2 ^ 64
  | .mull x y => x.val s * y.val s % 2 ^ 64
  | .adds x y z => (x.val s + y.val s + z.val s) % 2 ^ 64
  | .addc x y z => (x.val s + y.val s + z.val s) / 2 ^ 64
  | .subs x y z => (x.val s + 2 ^ 64 - y.val s - z.val s) % 2 ^ 64
  | .subb x y z => if x.val s < y.val s + z.val s then 1 else 0
  | .add b x y => (x.val s + y.val s) % 2 ^ b
  | .mul b x y => x.val s * y.val s % 2 ^ b
  | .and x y => x.val s &&& y.val s
  | .or x y => x.val s ||| y.val s
  | .not b x => (2 ^ b - 1) ^^^ x.val s
  | .shl b n x => x.val s * 2 ^ n % 2 ^ b
  | .shr n x => x.val s / 2 ^ n
  | .low b x => x.val s % 2 ^ b
  | .sel c x y => if c.val s = 0 then x.val s else y.val s
  | .fcst n => n % pq
  | .fmul x y => x.val s * y.val s % pq
  | .fadd x y => (x.val s + y.val s) % pq
  | .fsub x y => (x.val s + (pq - y.val s)) % pq
  | .finv x => finvq (x.val s)
  | .feq x y => if x.val s = y.val s then 1 else 0
  | .fne x y => if x.val s = y.val s then 0 else 1
  | .xor x y => x.val s ^^^ y.val s
  | .sub b x y => (x.val s + (2 ^ b - y.val s)) % 2 ^ b
  | .op c l => opVal c (l.map (Wd.val s))

/-- What is known of one cell's value. -/
inductive A0 where
  | any
  | lit (v : Value)
  | num (k : IntKind) (i : Nat)
  | bit (k : IntKind) (i : Nat)
  | limb (i k : Nat)
  | ptr (r o : Nat)
  | slc (r o len cap : Nat)
  | l32 (i k : Nat)
  | bl (i : Nat)
  | dig (i k : Nat)
  | byt (i k : Nat)
  | sg (i : Nat)
  | sl (r o n : Nat)
  | sv (r o n i : Nat)
  | err
  | sy (r i : Nat)
  | ac
/-- What is known of a temporary. -/
inductive AV where
  | one (a : A0)
  | two (a b : A0)
  | agg (l : List A0)
  | tup (l : List AV)

/-- Numbers' values and regions' first places. -/
abbrev Nums := Nat → Nat
abbrev Places := Nat → Nat × Nat

def at_ (β : Places) (r o : Nat) : Addr := ⟨(β r).1, (β r).2 + o, none⟩

/-- A slice with its length, its room, and whether it is nil. -/
def syV (s : Nums) (β : Places) (r i : Nat) : Value := if s (i + 2) = 1 then .slice none 0 0 else .slice (some (at_ β r 0)) (s i) (s (i + 1))
def A0.rep (s : Nums) (β : Places) (nr : Nat) : A0 → Value → Prop
  | .any, _ => True
  | .lit u, v => v = u
  | .num k i, v => v = .int k (s i : Int) ∧ s i < 2 ^ k.bits
  | .bit k i, v => v = .int k (s i : Int) ∧ s i ≤ 1
  | .limb i k, v => v = .int .u64 (lim k (s i) : Int) ∧ s i < pq
  | .ptr r o, v => v = .pointer (some (at_ β r o)) ∧ r < nr
  | .slc r o n c, v => v = .slice (some (at_ β r o)) n c ∧ r < nr
  | .l32 i k, v => v = .int .i64 ((s i / 2 ^ (32 * k) % 2 ^ 32 : Nat) : Int) ∧ s i < 2 ^ 224
  | .bl i, v => v = .bool (s i == 1) ∧ s i ≤ 1
  | .dig i k, v => v = .int .u64 (dg k (s i) : Int) ∧ s i < pq
  | .byt i k, v => v = .int .u8 (by8 k (s i) : Int) ∧ s i < pq
  | .sg i, v => v = .int .i64 (sgn (s i)) ∧ s i < 2 ^ 64
  | .sl r o n, v => ∃ c, n ≤ c ∧ v = .slice (some (at_ β r o)) n c ∧ r < nr
  | .sv r o n i, v => v = .slice (some (at_ β r o)) n (s i) ∧ n ≤ s i ∧ r < nr
  | .err, v => ∃ t u, v = .iface t u
  | .ac, v => v.oneCell' = true
  | .sy r i, v => v = syV s β r i ∧ r < nr ∧ s i < 2 ^ 63 ∧ s i ≤ s (i + 1) ∧ (s (i + 2) = 1 → s i = 0)

mutual
def AV.rep (s : Nums) (β : Places) (nr : Nat) : AV → Value → Prop
  | .one a, v => a.rep s β nr v
  | .two a b, v => ∃ x y, v = .tuple #[x, y] ∧ a.rep s β nr x ∧ b.rep s β nr y
  | .agg l, v => ∃ vs : List Value, v = .agg vs.toArray ∧ vs.length = l.length ∧ ∀ (j : Nat) (a : A0) (x : Value), l[j]? = some a → vs[j]? = some x → a.rep s β nr x
  | .tup l, v => ∃ vs : List Value, v = .tuple vs.toArray ∧ AV.repL s β nr l vs
def AV.repL (s : Nums) (β : Places) (nr : Nat) : List AV → List Value → Prop
  | [], [] => True
  | x :: l, v :: m => x.rep s β nr v ∧ AV.repL s β nr l m
  | _, _ => False
end

/-! ### temporaries: a tree by number -/
inductive Tr where
  | nil
  | node (v : Option AV) (l r : Tr)
def Tr.get : Tr → Nat → Option AV
  | .nil, _ => none
  | .node v _ _, 0 => v
  | .node _ l r, k + 1 => bif k % 2 == 0 then l.get (k / 2) else r.get (k / 2)
def Tr.set : Nat → Tr → Nat → AV → Tr
  | 0, t, _, _ => t
  | _ + 1, .nil, 0, v => .node (some v) .nil .nil
  | _ + 1, .node _ l r, 0, v => .node (some v) l r
  | f + 1, .nil, k + 1, v => bif k % 2 == 0 then .node none (Tr.set f .nil (k / 2) v) .nil else .node none .nil (Tr.set f .nil (k / 2) v)
  | f + 1, .node u l r, k + 1, v => bif k % 2 == 0 then .node u (Tr.set f l (k / 2) v) r else .node u l (Tr.set f r (k / 2) v)

/-- The calls that are met by their contracts. -/
inductive Prim where
  | mul64 | add64 | sub64 | cmov
  | fmul (q : Bool) | fsq (q : Bool) | fadd (q : Bool) | fsub (q : Bool) | fset | fone (q : Bool)
  | fsel | fselv | fB | finv | feq | fzero
  | frm | tob | rev | frb | tom | cmpB | bts | byN

/-- What the executor must know of types and functions. -/
structure Tab0 where
  arr : TypeId → Option (Nat × Nat)
  fld : TypeId → Nat → Option Nat
  var : TypeId → Option (Bool × Nat)
  zero : TypeId → Option (List Value)
  bld : TypeId → Option (List Value)
  slc : TypeId → Option Nat
  mks : TypeId → Option Value
  kind : TypeId → Option IntKind
  elem : TypeId → Bool
  prim : FuncId → Option Prim

structure St where
  tm : Tr
  mem : List (Nat × List A0)
  nx : Nat
  nr : Nat
  exs : List Ex
  out : List (Nat × Nat × A0)
  it : List (Nat × ByteArray × Nat)

/-- What is fixed throughout: the number of temporaries, of the old regions, which may be written, which lie apart. -/
structure Fix where
  nt : Nat
  nold : Nat
  wr : Nat → Bool
  sep : Nat → Nat → Bool
  dec : Nat → Option Bool
  np : Nat → Option (Nat × Nat) := fun _ => none

/-- What the executor must know, and more operations that it knows: those that change no memory, and others. -/
structure Tab extends Tab0 where
  qext : Fix → (Nat → Bool) → St → Op → Option (AV × List Ex)
  lext : Fix → St → Op → Option (AV × St)

/-- The iterators over strings: where each is. -/
def lookupI (r : Nat) : List (Nat × ByteArray × Nat) → Option (ByteArray × Nat)
  | [] => none
  | (s, l) :: m => bif s == r then some l else lookupI r m

def lookup (r : Nat) : List (Nat × List A0) → Option (List A0)
  | [] => none
  | (s, l) :: m => bif s == r then some l else lookup r m

def St.ev (st : St) : Operand → AV
  | .tmp t => (st.tm.get t).getD (.one .any)
  | .const v => .one (.lit v)
  | _ => .one .any

def A0.wd : A0 → Option Wd
  | .lit (.int _ n) => bif decide (0 ≤ n) then some (.c n.toNat) else none
  | .num _ i => some (.v i)
  | .bit _ i => some (.v i)
  | _ => none
def A0.kd : A0 → Option IntKind
  | .lit (.int k _) => some k
  | .num k _ => some k
  | .bit k _ => some k
  | .l32 _ _ => some .i64
  | .byt _ _ => some .u8
  | _ => none
/-- A word of kind k: its name, where it is one and, a constant, within its kind. -/
def A0.word (k : IntKind) : A0 → Option Wd
  | .lit (.int k' n) => bif decide (k' = k) && decide (0 ≤ n) && decide (n < 2 ^ k.bits) then some (.c n.toNat) else none
  | .num k' i => bif decide (k' = k) then some (.v i) else none
  | .bit k' i => bif decide (k' = k) then some (.v i) else none
  | .l32 i j => bif decide (IntKind.i64 = k) then some (.w i j) else none
  | .byt i j => bif decide (IntKind.u8 = k) then some (.b i j) else none
  | _ => none
/-- A word of 64 bits that is 0 or 1. -/
def A0.carry : A0 → Option Wd
  | .lit (.int .u64 n) => bif decide (n = 0) || decide (n = 1) then some (.c n.toNat) else none
  | .bit .u64 i => some (.v i)
  | _ => none

def A0.carryK (k : IntKind) : A0 → Option Wd
  | .lit (.int k' n) => bif decide (k' = k) && (decide (n = 0) || decide (n = 1)) then some (.c n.toNat) else none
  | .bit k' i => bif decide (k' = k) then some (.v i) else none
  | _ => none

def unsigned : IntKind → Bool
  | .u8 | .u64 => true
  | _ => false

/-- Arithmetic on two numbers. -/
def bin (nx : Nat) (op : BinOp) (x y : A0) : Option (AV × List Ex) :=
  match op, x, y with
  | .add, .lit (.int .i64 a), .lit (.int .i64 b) => bif decide (0 ≤ a) && decide (a < 1000000) && decide (0 ≤ b) && decide (b < 1000000) then some (.one (.lit (.int .i64 (a + b))), []) else none
  | .sub, .lit (.int .i64 a), .lit (.int .i64 b) => bif decide (0 ≤ a) && decide (a < 1000000) && decide (0 ≤ b) && decide (b < 1000000) then some (.one (.lit (.int .i64 (a - b))), []) else none
  | .quo, .lit (.int .i64 a), .lit (.int .i64 b) => bif decide (0 ≤ a) && decide (a < 1000000) && decide (0 < b) && decide (b < 1000000) then some (.one (.lit (.int .i64 (a / b))), []) else none
  | .lss, .lit (.int .i64 a), .lit (.int .i64 b) => some (.one (.lit (.bool (decide (a < b)))), [])
  | .geq, .lit (.int .i64 a), .lit (.int .i64 b) => some (.one (.lit (.bool (decide (a ≥ b)))), [])
  | .shl, x, .lit (.int .u64 n) =>
    match x.kd with
    | some k => match x.word k with
      | some a => bif unsigned k && decide (0 ≤ n) && decide (n < 64) && decide (n.toNat ≤ k.bits) then some (.one (.num k nx), [.shl k.bits n.toNat a]) else none
      | none => none
    | none => none
  | .shr, x, .lit (.int .u64 n) =>
    match x.kd with
    | some k => match x.word k with
      | some a => bif unsigned k && decide (0 ≤ n) && decide (n < 64) && decide (n.toNat ≤ k.bits) then some (.one (.num k nx), [.shr n.toNat a]) else none
      | none => none
    | none => none
  | op, x, y =>
    match x.kd with
    | some k => match x.word k, y.word k with
      | some a, some b =>
        bif unsigned k then
          match op with
          | .add => some (.one (.num k nx), [.add k.bits a b])
          | .mul => some (.one (.num k nx), [.mul k.bits a b])
          | .and => some (.one (.num k nx), [.and a b])
          | .or => some (.one (.num k nx), [.or a b])
          | .xor => some (.one (.num k nx), [.xor a b])
          | _ => none
        else none
      | _, _ => none
    | none => none

/-- Two numbers compared. -/
def cmp (nx : Nat) (pos : Bool) (x y : A0) : Option (AV × List Ex) :=
  match x, y with
  | .lit (.int .i64 a), .lit (.int .i64 b) => some (.one (.lit (.bool (decide (a = b) == pos))), [])
  | x, y => match x.kd with
    | some k => match x.word k, y.word k with
      | some a, some b => some (.one (.bl nx), [bif pos then .feq a b else .fne a b])
      | _, _ => none
    | none => none

/-- A bool that is known, or has been decided. -/
def AV.truth (F : Fix) : AV → Option Bool
  | .one (.lit (.bool b)) => some b
  | .one (.bl i) => F.dec i
  | _ => none

def conv (nx : Nat) (k' : IntKind) (x : A0) : Option (AV × List Ex) :=
  match x with
  | .num k i =>
    bif unsigned k && unsigned k' then
      bif decide (k.bits ≤ k'.bits) then some (.one (.num k' i), []) else some (.one (.num k' nx), [.low k'.bits (.v i)])
    else none
  | .bit _ i => some (.one (.bit k' i), [])
  | _ => none

/-- The cells of a region from o on, n of them. -/
def cellsAt (m : List (Nat × List A0)) (r o n : Nat) : Option (List A0) :=
  match lookup r m with
  | some l => bif decide (o + n ≤ l.length) then some ((l.drop o).take n) else none
  | none => none

def definite : A0 → Bool
  | .any => false
  | .sl _ _ _ => false
  | .err => false
  | .ac => false
  | .lit (.agg _) => false
  | .lit (.tuple _) => false
  | _ => true

/-- A struct's cells, some of them set. -/
def buildCells (st : St) : List A0 → List (Nat × Operand) → Option (List A0)
  | acc, [] => some acc
  | acc, (i, x) :: ps => match st.ev x with
    | .one a => bif definite a && decide (i < acc.length) then buildCells st (acc.set i a) ps else none
    | _ => none

def litCells (l : List Value) : List A0 := l.map .lit

/-- An operation that changes no memory: its value, and what the new number is. L: the regions that may be read. -/
def quiet0 (T : Tab) (F : Fix) (L : Nat → Bool) (st : St) : Op → Option (AV × List Ex)
  | .move x => some (st.ev x, [])
  | .assign x => some (st.ev x, [])
  | .nilCheck x => match st.ev x with
    | .one (.ptr r o) => some (.one (.ptr r o), [])
    | _ => none
  | .fieldAddr s x f => match st.ev x, T.fld s f with
    | .one (.ptr r o), some d => some (.one (.ptr r (o + d)), [])
    | _, _ => none
  | .indexAddr t x i => match st.ev x, st.ev i, T.arr t with
    | .one (.ptr r o), .one (.lit (.int _ n)), some (len, sz) => bif decide (0 ≤ n) && decide (n < len) then some (.one (.ptr r (o + n.toNat * sz)), []) else none
    | .one (.slc r o len _), .one (.lit (.int _ n)), none => match T.slc t with
      | some sz => bif decide (0 ≤ n) && decide (n < len) then some (.one (.ptr r (o + n.toNat * sz)), []) else none
      | none => none
    | _, _, _ => none
  | .load t x => match st.ev x, T.var t with
    | .one (.ptr r o), some (false, _) => bif L r then (match cellsAt st.mem r o 1 with | some [c] => bif definite c then some (.one c, []) else none | _ => none) else none
    | .one (.ptr r o), some (true, n) => bif L r then (match cellsAt st.mem r o n with | some l => bif l.all definite then some (.agg l, []) else none | none => none) else none
    | _, _ => none
  | .binOp .eql _ x y _ => match st.ev x, st.ev y with
    | .one a, .one b => cmp st.nx true a b
    | _, _ => none
  | .binOp .neq _ x y _ => match st.ev x, st.ev y with
    | .one a, .one b => cmp st.nx false a b
    | _, _ => none
  | .pick c x y => match (st.ev c).truth F with
    | some true => some (st.ev x, [])
    | some false => some (st.ev y, [])
    | none => none
  | .build t parts => match T.bld t with
    | some l => match buildCells st (litCells l) parts.toList with
      | some cells => some (.agg cells, [])
      | none => none
    | none => none
  | .slice t x none none none => match st.ev x, T.arr t with
    | .one (.ptr r o), some (n, _) => some (.one (.slc r o n n), [])
    | _, _ => none
  | .call c => match c.callee, c.args.toList with
    | .builtin .len, [x] => match st.ev x, c.argTypes.toList with
      | .one (.slc _ _ n _), [t] => match T.slc t with
        | some _ => bif decide (n < 1000000) then some (.one (.lit (.int .i64 n)), []) else none
        | none => none
      | _, _ => none
    | _, _ => none
  | .binOp op _ x y _ => match st.ev x, st.ev y with
    | .one a, .one b => bin st.nx op a b
    | _, _ => none
  | .unOp op _ x => match op, st.ev x with
    | .xor, .one a => match a.word .u64 with
      | some w => some (.one (.num .u64 st.nx), [.not 64 w])
      | none => none
    | .not, .one (.lit (.bool b)) => some (.one (.lit (.bool !b)), [])
    | .not, .one (.bl i) => some (.one (.bl st.nx), [.feq (.v i) (.c 0)])
    | _, _ => none
  | .convert s d x => match T.kind s, T.kind d, st.ev x with
    | some _, some k', .one a => conv st.nx k' a
    | _, _, _ => none
  | .extract x i => match i, st.ev x with
    | 0, .two a _ => some (.one a, [])
    | 1, .two _ b => some (.one b, [])
    | _, _ => none
  | _ => none

def quiet (T : Tab) (F : Fix) (L : Nat → Bool) (st : St) (op : Op) : Option (AV × List Ex) :=
  match T.qext F L st op with
  | some r => some r
  | none => quiet0 T F L st op

def setRange (l : List A0) (o : Nat) : List A0 → List A0
  | [] => l
  | v :: vs => setRange (l.set o v) (o + 1) vs

/-- The stores of a row, newest first. -/
def outRange (r o : Nat) : List A0 → List (Nat × Nat × A0) → List (Nat × Nat × A0)
  | [], acc => acc
  | v :: vs, acc => outRange r (o + 1) vs ((r, o, v) :: acc)

def memSet (F : Fix) (r o : Nat) (vs : List A0) : List (Nat × List A0) → List (Nat × List A0)
  | [] => []
  | (s, l) :: m =>
    bif s == r then (s, setRange l o vs) :: memSet F r o vs m
    else bif decide (F.nold ≤ r) || decide (F.nold ≤ s) || F.sep r s then (s, l) :: memSet F r o vs m
    else memSet F r o vs m

/-- A store of a row of cells. -/
def write (F : Fix) (st : St) (r o : Nat) (vs : List A0) : Option St :=
  match lookup r st.mem with
  | some l => bif decide (o + vs.length ≤ l.length) && (decide (F.nold ≤ r) || F.wr r) && vs.all definite then
      some { st with mem := memSet F r o vs st.mem, out := bif decide (F.nold ≤ r) then st.out else outRange r o vs st.out }
    else none
  | none => none

def limbs (i : Nat) : List A0 := [.limb i 0, .limb i 1, .limb i 2, .limb i 3]

def allocAt (T : Tab) (st : St) (t : TypeId) : Option (AV × St) :=
  match T.zero t with
  | some l =>
    bif T.elem t then some (.one (.ptr st.nr 0), { st with mem := (st.nr, limbs st.nx) :: st.mem, nr := st.nr + 1, nx := st.nx + 1, exs := .fcst 0 :: st.exs })
    else some (.one (.ptr st.nr 0), { st with mem := (st.nr, litCells l) :: st.mem, nr := st.nr + 1 })
  | none => none

/-- The element whose words lie at a place. -/
def elemAt (m : List (Nat × List A0)) (r o : Nat) : Option Nat :=
  match cellsAt m r o 4 with
  | some [.limb i 0, .limb i1 1, .limb i2 2, .limb i3 3] => bif i1 == i && i2 == i && i3 == i then some i else none
  | _ => none

def digs (i : Nat) : List A0 := [.dig i 0, .dig i 1, .dig i 2, .dig i 3]
/-- The bytes of a number, in the order that f says. -/
def byts (f : Nat → Nat) (i : Nat) : List A0 := (List.range 28).map fun k => .byt i (f k)
def down (k : Nat) : Nat := 27 - k
def digAt (m : List (Nat × List A0)) (r o : Nat) : Option Nat :=
  match cellsAt m r o 4 with
  | some [.dig i 0, .dig i1 1, .dig i2 2, .dig i3 3] => bif i1 == i && i2 == i && i3 == i then some i else none
  | _ => none
def isByts (f : Nat → Nat) (i : Nat) : Nat → List A0 → Bool
  | _, [] => true
  | k, .byt j q :: l => j == i && q == f k && isByts f i (k + 1) l
  | _, _ => false
def bytAt (f : Nat → Nat) (m : List (Nat × List A0)) (r o : Nat) : Option Nat :=
  match cellsAt m r o 28 with
  | some (.byt i q :: l) => bif isByts f i 0 (.byt i q :: l) then some i else none
  | _ => none
def isZeros : List A0 → Bool
  | [] => true
  | .lit (.int .u8 n) :: l => decide (n = 0) && isZeros l
  | _ => false
/-- The number whose bytes lie at a place, the highest first; or nothing but zeros. -/
def numAt (m : List (Nat × List A0)) (r o : Nat) : Option Wd :=
  match bytAt down m r o with
  | some i => some (.v i)
  | none => match cellsAt m r o 28 with
    | some l => bif isZeros l then some (.c 0) else none
    | none => none

/-- What a function of elements hands back: nothing, or the place that it wrote. -/
def rv (q : Bool) (r o : Nat) : AV := bif q then .one .any else .one (.ptr r o)

/-- A call by its contract. -/
def callPrim (F : Fix) (st : St) : Prim → List AV → Option (AV × St)
  | .mul64, [.one x, .one y] => match x.word .u64, y.word .u64 with
    | some a, some b => some (.two (.num .u64 st.nx) (.num .u64 (st.nx + 1)), { st with nx := st.nx + 2, exs := .mull a b :: .mulh a b :: st.exs })
    | _, _ => none
  | .add64, [.one x, .one y, .one z] => match x.word .u64, y.word .u64, z.carry with
    | some a, some b, some c => some (.two (.num .u64 st.nx) (.bit .u64 (st.nx + 1)), { st with nx := st.nx + 2, exs := .addc a b c :: .adds a b c :: st.exs })
    | _, _, _ => none
  | .sub64, [.one x, .one y, .one z] => match x.word .u64, y.word .u64, z.carry with
    | some a, some b, some c => some (.two (.num .u64 st.nx) (.bit .u64 (st.nx + 1)), { st with nx := st.nx + 2, exs := .subb a b c :: .subs a b c :: st.exs })
    | _, _, _ => none
  | .cmov, [.one (.ptr r o), .one c, .one x, .one y] => match c.carry, x.word .u64, y.word .u64 with
    | some a, some b, some d =>
      match write F { st with nx := st.nx + 1, exs := .sel a b d :: st.exs } r o [.num .u64 st.nx] with
      | some st' => some (.one .any, st')
      | none => none
    | _, _, _ => none
  | .fmul q, [.one (.ptr r o), .one (.ptr r1 o1), .one (.ptr r2 o2)] => match elemAt st.mem r1 o1, elemAt st.mem r2 o2 with
    | some i, some j =>
      match write F { st with nx := st.nx + 1, exs := .fmul (.v i) (.v j) :: st.exs } r o (limbs st.nx) with
      | some st' => some (rv q r o, st')
      | none => none
    | _, _ => none
  | .fadd q, [.one (.ptr r o), .one (.ptr r1 o1), .one (.ptr r2 o2)] => match elemAt st.mem r1 o1, elemAt st.mem r2 o2 with
    | some i, some j =>
      match write F { st with nx := st.nx + 1, exs := .fadd (.v i) (.v j) :: st.exs } r o (limbs st.nx) with
      | some st' => some (rv q r o, st')
      | none => none
    | _, _ => none
  | .fsub q, [.one (.ptr r o), .one (.ptr r1 o1), .one (.ptr r2 o2)] => match elemAt st.mem r1 o1, elemAt st.mem r2 o2 with
    | some i, some j =>
      match write F { st with nx := st.nx + 1, exs := .fsub (.v i) (.v j) :: st.exs } r o (limbs st.nx) with
      | some st' => some (rv q r o, st')
      | none => none
    | _, _ => none
  | .fsq q, [.one (.ptr r o), .one (.ptr r1 o1)] => match elemAt st.mem r1 o1 with
    | some i =>
      match write F { st with nx := st.nx + 1, exs := .fmul (.v i) (.v i) :: st.exs } r o (limbs st.nx) with
      | some st' => some (rv q r o, st')
      | none => none
    | _ => none
  | .fset, [.one (.ptr r o), .one (.ptr r1 o1)] => match elemAt st.mem r1 o1 with
    | some i =>
      match write F st r o (limbs i) with
      | some st' => some (.one (.ptr r o), st')
      | none => none
    | _ => none
  | .fone q, [.one (.ptr r o)] =>
      match write F { st with nx := st.nx + 1, exs := .fcst 1 :: st.exs } r o (limbs st.nx) with
      | some st' => some (rv q r o, st')
      | none => none
  | .fsel, [.one (.ptr r o), .one (.ptr r1 o1), .one (.ptr r2 o2), .one c] => match elemAt st.mem r1 o1, elemAt st.mem r2 o2, c.carryK .i64 with
    | some i, some j, some a =>
      match write F { st with nx := st.nx + 1, exs := .sel a (.v j) (.v i) :: st.exs } r o (limbs st.nx) with
      | some st' => some (.one (.ptr r o), st')
      | none => none
    | _, _, _ => none
  | .fselv, [.one (.ptr r o), .one c, .one (.ptr r1 o1), .one (.ptr r2 o2)] => match elemAt st.mem r1 o1, elemAt st.mem r2 o2, c.carryK .u64 with
    | some i, some j, some a =>
      match write F { st with nx := st.nx + 1, exs := .sel a (.v i) (.v j) :: st.exs } r o (limbs st.nx) with
      | some st' => some (.one .any, st')
      | none => none
    | _, _, _ => none
  | .finv, [.one (.ptr r o), .one (.ptr r1 o1)] => match elemAt st.mem r o, elemAt st.mem r1 o1 with
    | some _, some i =>
      match write F { st with nx := st.nx + 1, exs := .finv (.v i) :: st.exs } r o (limbs st.nx) with
      | some st' => some (.one (.ptr r o), st')
      | none => none
    | _, _ => none
  | .fB, [] => some (.one (.ptr st.nr 0), { st with mem := (st.nr, limbs st.nx) :: st.mem, nr := st.nr + 1, nx := st.nx + 1, exs := .fcst bq :: st.exs })
  | .feq, [.one (.ptr r1 o1), .one (.ptr r2 o2)] => match elemAt st.mem r1 o1, elemAt st.mem r2 o2 with
    | some i, some j => some (.one (.bit .i64 st.nx), { st with nx := st.nx + 1, exs := .feq (.v i) (.v j) :: st.exs })
    | _, _ => none
  | .fzero, [.one (.ptr r1 o1)] => match elemAt st.mem r1 o1 with
    | some i => some (.one (.bit .i64 st.nx), { st with nx := st.nx + 1, exs := .feq (.v i) (.c 0) :: st.exs })
    | _ => none
  | .frm, [.one (.ptr r o), .one (.ptr r1 o1)] => match elemAt st.mem r1 o1 with
    | some i => match write F st r o (digs i) with
      | some st' => some (.one .any, st')
      | none => none
    | none => none
  | .tob, [.one (.ptr r o), .one (.ptr r1 o1)] => match digAt st.mem r1 o1 with
    | some i => match write F st r o (byts id i) with
      | some st' => some (.one .any, st')
      | none => none
    | none => none
  | .rev, [.one (.slc r o 28 28)] => match bytAt id st.mem r o with
    | some i => match write F st r o (byts down i) with
      | some st' => some (.one .any, st')
      | none => none
    | none => match bytAt down st.mem r o with
      | some i => match write F st r o (byts id i) with
        | some st' => some (.one .any, st')
        | none => none
      | none => none
  | .frb, [.one (.ptr r o), .one (.ptr r1 o1)] => match bytAt id st.mem r1 o1 with
    | some i => match write F st r o (digs i) with
      | some st' => some (.one .any, st')
      | none => none
    | none => none
  | .tom, [.one (.ptr r o), .one (.ptr r1 o1)] => match digAt st.mem r1 o1 with
    | some i => match write F st r o (limbs i) with
      | some st' => some (.one .any, st')
      | none => none
    | none => none
  | .bts, [.one (.ptr r1 o1), .one (.ptr r o)] => match elemAt st.mem r1 o1 with
    | some i => match write F st r o (byts down i) with
      | some st' => some (.one (.slc r o 28 28), st')
      | none => none
    | none => none
  | .byN, [.one (.ptr r1 o1)] => match elemAt st.mem r1 o1 with
    | some i => some (.one (.slc st.nr 0 28 28), { st with mem := (st.nr, byts down i) :: st.mem, nr := st.nr + 1 })
    | none => none
  | .cmpB, [.one (.slc r1 o1 28 28), .one (.slc r2 o2 28 28)] => match numAt st.mem r1 o1, numAt st.mem r2 o2 with
    | some a, some b => some (.one (.bit .i64 st.nx), { st with nx := st.nx + 1, exs := .feq a b :: st.exs })
    | _, _ => none
  | _, _ => none

/-- An operation that may change memory: its value and the state behind it. -/
def loud0 (T : Tab) (F : Fix) (st : St) : Op → Option (AV × St)
  | .alloc t => allocAt T st t
  | .makeSlice t l c => match st.ev l, st.ev c, T.mks t with
    | .one (.lit (.int .i64 n)), .one (.lit (.int .i64 m)), some z => bif decide (n = m) && decide (0 ≤ n) && decide (n < 1000000) then
        some (.one (.slc st.nr 0 n.toNat n.toNat), { st with mem := (st.nr, litCells (List.replicate n.toNat z)) :: st.mem, nr := st.nr + 1 })
      else none
    | _, _, _ => none
  | .box _ x => match st.ev x with
    | .one a => bif definite a then some (.one (.ptr st.nr 0), { st with mem := (st.nr, [a]) :: st.mem, nr := st.nr + 1 }) else none
    | .agg l => bif l.all definite then some (.one (.ptr st.nr 0), { st with mem := (st.nr, l) :: st.mem, nr := st.nr + 1 }) else none
    | _ => none
  | .store t a x => match st.ev a, st.ev x, T.var t with
    | .one (.ptr r o), .one v, some (_, 1) => match write F st r o [v] with
      | some st' => some (.one .any, st')
      | none => none
    | .one (.ptr r o), .agg l, some (_, n) => bif decide (l.length = n) && decide (1 ≤ n) then (match write F st r o l with
      | some st' => some (.one .any, st')
      | none => none) else none
    | _, _, _ => none
  | .call c => match c.callee with
    | .value (.func f) => match T.prim f with
      | some p => callPrim F st p (c.args.toList.map st.ev)
      | none => none
    | _ => none
  | _ => none

def loud (T : Tab) (F : Fix) (st : St) (op : Op) : Option (AV × St) :=
  match T.lext F st op with
  | some r => some r
  | none => loud0 T F st op

def isQuiet : Op → Bool
  | .index _ _ _ => true
  | .pick _ _ _ | .build _ _ | .slice _ _ _ _ _ => true
  | .call c => match c.callee with
    | .builtin .len => true
    | _ => false
  | .move _ | .assign _ | .nilCheck _ | .fieldAddr _ _ _ | .indexAddr _ _ _ | .load _ _ | .binOp _ _ _ _ _ | .unOp _ _ _ | .convert _ _ _ | .extract _ _ => true
  | _ => false

def putTm (F : Fix) (st : St) (d : Option Tmp) (v : AV) : Option St :=
  match d with
  | none => some st
  | some t => bif decide (t < F.nt) && decide (F.nt < 4095) then some { st with tm := st.tm.set 12 t v } else none

def addExs (st : St) (l : List Ex) : St := { st with nx := st.nx + l.length, exs := l ++ st.exs }

/-- Is the operation to be carried out? -/
def wants (F : Fix) (st : St) (ops : Array Oper) (o : Oper) : Option Bool :=
  match o.guard with
  | none => some true
  | some (j, want) => match (ops[j]?).bind (·.dst) with
    | some t => match (((st.tm.get t).getD (.one .any)).truth F) with
      | some b => some (b == want)
      | none => match st.tm.get t with
        | some (.one (.lit (.tuple _))) => some false
        | _ => none
    | none => none

/-- One operation. -/
def step (T : Tab) (F : Fix) (L : Nat → Bool) (ops : Array Oper) (st : St) (o : Oper) : Option St :=
  match wants F st ops o with
  | some true =>
    bif isQuiet o.op then
      match quiet T F L st o.op with
      | some (v, l) => putTm F (addExs st l) o.dst v
      | none => none
    else
      match loud T F st o.op with
      | some (v, st') => putTm F st' o.dst v
      | none => none
  | some false => putTm F st o.dst (.one (.lit (.tuple #[])))
  | none => none

def steps (T : Tab) (F : Fix) (ops : Array Oper) : List Oper → St → Option St
  | [], st => some st
  | o :: l, st => match step T F (fun _ => true) ops st o with
    | some st' => steps T F ops l st'
    | none => none

/-! ### regions whose order is drawn -/
def litSame : Value → Value → Bool
  | .slice none n c, .slice none n' c' => n == n' && c == c'
  | .nilIface, .nilIface => true
  | .int k n, .int k' n' => decide (k = k') && decide (n = n')
  | .pointer none, .pointer none => true
  | .bool a, .bool b => a == b
  | .tuple a, .tuple b => a.isEmpty && b.isEmpty
  | _, _ => false
def A0.same : A0 → A0 → Bool
  | .lit u, .lit v => litSame u v
  | .num k i, .num k' i' => decide (k = k') && i == i'
  | .bit k i, .bit k' i' => decide (k = k') && i == i'
  | .limb i k, .limb i' k' => i == i' && k == k'
  | .ptr r o, .ptr r' o' => r == r' && o == o'
  | .slc r o n c, .slc r' o' n' c' => r == r' && o == o' && n == n' && c == c'
  | .l32 i k, .l32 i' k' => i == i' && k == k'
  | .bl i, .bl i' => i == i'
  | .dig i k, .dig i' k' => i == i' && k == k'
  | .byt i k, .byt i' k' => i == i' && k == k'
  | .sg i, .sg i' => i == i'
  | .sl r o n, .sl r' o' n' => r == r' && o == o' && n == n'
  | .sv r o n i, .sv r' o' n' i' => r == r' && o == o' && n == n' && i == i'
  | .any, .any => true
  | .err, .err => true
  | .sy r i, .sy r' i' => r == r' && i == i'
  | .ac, .ac => true
  | _, _ => false
def sameAll : List A0 → List A0 → Bool
  | [], [] => true
  | a :: l, b :: m => a.same b && sameAll l m
  | _, _ => false
def keeps (L : Nat → Bool) (m m' : List (Nat × List A0)) : Bool :=
  m.all fun x => !L x.1 || (match lookup x.1 m, lookup x.1 m' with
    | some l, some l' => sameAll l l'
    | _, _ => false)

mutual
def AV.same : AV → AV → Bool
  | .one a, .one b => a.same b
  | .two a b, .two c d => a.same c && b.same d
  | .agg l, .agg m => sameAll l m
  | .tup l, .tup m => AV.sameL l m
  | _, _ => false
def AV.sameL : List AV → List AV → Bool
  | [], [] => true
  | x :: l, y :: m => x.same y && AV.sameL l m
  | _, _ => false
end
def optSame : Option AV → Option AV → Bool
  | none, none => true
  | some x, some y => x.same y
  | _, _ => false
def Tr.same : Tr → Tr → Bool
  | .nil, .nil => true
  | .node v l r, .node v' l' r' => optSame v v' && l.same l' && r.same r'
  | _, _ => false
def memSame : List (Nat × List A0) → List (Nat × List A0) → Bool
  | [], [] => true
  | (r, l) :: m, (r', l') :: m' => r == r' && sameAll l l' && memSame m m'
  | _, _ => false
def outSame : List (Nat × Nat × A0) → List (Nat × Nat × A0) → Bool
  | [], [] => true
  | (r, o, a) :: m, (r', o', a') :: m' => r == r' && o == o' && a.same a' && outSame m m'
  | _, _ => false
def St.same (x y : St) : Bool := x.nx == y.nx && x.nr == y.nr && x.tm.same y.tm && memSame x.mem y.mem && decide (x.exs = y.exs) && outSame x.out y.out && decide (x.it = y.it)

/-- The first of the operations that may come up now which changes no memory, may be taken first, and can be evaluated. -/
def pickQuiet (T : Tab) (F : Fix) (L : Nat → Bool) (st : St) (ops : Array Oper) (listed : Array Bool) : List Nat → Option (Nat × St)
  | [] => none
  | i :: l => match ops[i]? with
    | some o => bif isQuiet o.op && Region.free .any ops listed i then
        (match step T F L ops st o with
        | some st' => some (i, st')
        | none => pickQuiet T F L st ops listed l)
      else pickQuiet T F L st ops listed l
    | none => pickQuiet T F L st ops listed l

/-- All results are there and the same. -/
def agreed : List (Option St) → Option St
  | [] => none
  | [x] => x
  | some x :: l => match agreed l with
    | some y => bif x.same y then some y else none
    | none => none
  | none :: _ => none

/-! ### new regions in a fixed order -/
def A0.ren (σ : Nat → Nat) : A0 → A0
  | .ptr r o => .ptr (σ r) o
  | .slc r o n c => .slc (σ r) o n c
  | .sl r o n => .sl (σ r) o n
  | .sv r o n i => .sv (σ r) o n i
  | .sy r i => .sy (σ r) i
  | a => a
mutual
def AV.ren (σ : Nat → Nat) : AV → AV
  | .one a => .one (a.ren σ)
  | .two a b => .two (a.ren σ) (b.ren σ)
  | .agg l => .agg (l.map (A0.ren σ))
  | .tup l => .tup (AV.renL σ l)
def AV.renL (σ : Nat → Nat) : List AV → List AV
  | [] => []
  | x :: l => x.ren σ :: AV.renL σ l
end
def Tr.ren (σ : Nat → Nat) : Tr → Tr
  | .nil => .nil
  | .node none l r => .node none (l.ren σ) (r.ren σ)
  | .node (some v) l r => .node (some (v.ren σ)) (l.ren σ) (r.ren σ)

/-- Operations that make a region and wait for no call. -/
def makes : Op → Bool
  | .alloc _ | .buildSlice _ _ _ | .makeSlice _ _ _ | .box _ _ => true
  | _ => false
def madeAt (n0 : Nat) (st : St) (o : Oper) : Option Nat :=
  bif makes o.op then (match o.dst with
    | some t => match st.tm.get t with
      | some (.one (.ptr r _)) => bif decide (n0 ≤ r) then some r else none
      | some (.one (.slc r _ _ _)) => bif decide (n0 ≤ r) then some r else none
      | _ => none
    | none => none) else none
def idx (r : Nat) : List Nat → Nat → Option Nat
  | [], _ => none
  | x :: l, j => bif x == r then some j else idx r l (j + 1)
/-- The regions that operations made come last, in the order of the operations: forth and back. -/
def forth (n0 nr : Nat) (al : List Nat) (r : Nat) : Nat :=
  bif decide (r < n0) then r else match idx r al 0 with
    | some j => nr - al.length + j
    | none => r - (al.filter fun x => decide (x < r)).length
def back (n0 nr : Nat) (al : List Nat) (r : Nat) : Nat :=
  ((List.range nr).find? fun x => forth n0 nr al x == r).getD r
def isPerm (n0 nr : Nat) (σ τ : Nat → Nat) : Bool :=
  (List.range nr).all fun r => decide (σ r < nr) && τ (σ r) == r && decide (τ r < nr) && σ (τ r) == r && (bif decide (r < n0) then τ r == r else decide (n0 ≤ τ r))
def renMem (n0 nr : Nat) (σ τ : Nat → Nat) (m : List (Nat × List A0)) : List (Nat × List A0) :=
  ((List.range nr).reverse.filterMap fun r => bif decide (r < n0) then none else match lookup (τ r) m with
    | some l => some (r, l.map (A0.ren σ))
    | none => none) ++ (m.filter fun x => decide (x.1 < n0)).map fun x => (x.1, x.2.map (A0.ren σ))
def canonBy (n0 : Nat) (σ τ : Nat → Nat) (st : St) : St :=
  { st with tm := st.tm.ren σ, mem := renMem n0 st.nr σ τ st.mem, out := st.out.map fun e => (e.1, e.2.1, e.2.2.ren σ) }
def canon (n0 : Nat) (ops : Array Oper) (st : St) : Option St :=
  match ops.toList.filterMap (madeAt n0 st) with
  | [] => some st
  | x :: al => bif decide (x :: al = (List.range (al.length + 1)).map fun j => st.nr - (al.length + 1) + j) then some st else
      bif st.it.isEmpty && isPerm n0 st.nr (forth n0 st.nr (x :: al)) (back n0 st.nr (x :: al)) then some (canonBy n0 (forth n0 st.nr (x :: al)) (back n0 st.nr (x :: al)) st) else none

def drawn (T : Tab) (F : Fix) (L : Nat → Bool) (n0 : Nat) (m0 : List (Nat × List A0)) (ops : Array Oper) : Nat → Array Bool → St → Option St
  | 0, listed, st =>
    match Region.ready .any ops listed with
    | [] => canon n0 ops st
    | _ => none
  | f + 1, listed, st =>
    match Region.ready .any ops listed with
    | [] => canon n0 ops st
    | r :: rs =>
      match pickQuiet T F L st ops listed (r :: rs) with
      | some (i, st') => drawn T F L n0 m0 ops f (listed.setIfInBounds i true) st'
      | none => agreed ((r :: rs).map fun i => match ops[i]? with
          | some o => match step T F (fun _ => true) ops st o with
            | some st' => bif keeps L m0 st'.mem then drawn T F L n0 m0 ops f (listed.setIfInBounds i true) st' else none
            | none => none
          | none => none)

/-- The regions that stay as they were. -/
def keptIn (m m' : List (Nat × List A0)) (r : Nat) : Bool :=
  match lookup r m, lookup r m' with
  | some l, some l' => sameAll l l'
  | _, _ => false

def region (T : Tab) (F : Fix) (st : St) (ops : Array Oper) (draw : Bool) : Option St :=
  bif draw then
    bif Region.noSelect ops then
      match steps T F ops ops.toList st with
      | some st' => drawn T F (keptIn st.mem st'.mem) st.nr st.mem ops ops.size (Array.replicate ops.size false) st
      | none => none
    else none
  else steps T F ops ops.toList st

inductive Out where
  | normal
  | ret
  | exit (id : Nat)

/-- The executor. -/
def run (T : Tab) (F : Fix) : Nat → Code → St → Option (Out × St)
  | 0, _, _ => none
  | _ + 1, .skip, st => some (.normal, st)
  | _ + 1, .region _ ops draw, st => match region T F st ops draw with
    | some st' => some (.normal, st')
    | none => none
  | f + 1, .seq a b, st => match run T F f a st with
    | some (.normal, st') => run T F f b st'
    | some (o, st') => some (o, st')
    | none => none
  | f + 1, .cond c x y, st => match (st.ev c).truth F with
    | some true => run T F f x st
    | some false => run T F f y st
    | none => none
  | f + 1, .block id c, st => match run T F f c st with
    | some (.exit i, st') => bif i == id then some (.normal, st') else some (.exit i, st')
    | r => r
  | f + 1, .loop c, st => match run T F f c st with
    | some (.normal, st') => run T F f (.loop c) st'
    | r => r
  | _ + 1, .exit id, st => some (.exit id, st)
  | _ + 1, .ret, st => some (.ret, st)
  | _ + 1, _, _ => none

end P224
/- The executor is right: what it says of a number, a cell and a temporary holds of the program's run. This text: operations that change no memory. -/
namespace P224
open Go

theorem bif_some {α : Type} {c : Bool} {x : Option α} {y : α} (h : (bif c then x else none) = some y) : c = true ∧ x = some y := by
  cases c with
  | true => exact ⟨rfl, h⟩
  | false => cases h

def Agree (β β' : Places) (n : Nat) : Prop := ∀ r, r < n → β' r = β r
theorem Agree.refl (β : Places) (n : Nat) : Agree β β n := fun _ _ => rfl
theorem Agree.trans {β β' β'' : Places} {n n' : Nat} (h : Agree β β' n) (h' : Agree β' β'' n') (hn : n ≤ n') : Agree β β'' n :=
  fun r hr => (h' r (Nat.lt_of_lt_of_le hr hn)).trans (h r hr)

theorem A0.rep_mono {s : Nums} {β β' : Places} {n n' : Nat} (h : Agree β β' n) (hn : n ≤ n') {a : A0} {v : Value} (hr : a.rep s β n v) : a.rep s β' n' v := by
  cases a with
  | any => trivial
  | lit u => exact hr
  | num k i => exact hr
  | bit k i => exact hr
  | limb i k => exact hr
  | ptr r o =>
    obtain ⟨hv, hlt⟩ := hr
    refine ⟨?_, Nat.lt_of_lt_of_le hlt hn⟩
    rw [hv, at_, at_, h r hlt]
  | slc r o m c =>
    obtain ⟨hv, hlt⟩ := hr
    refine ⟨?_, Nat.lt_of_lt_of_le hlt hn⟩
    rw [hv, at_, at_, h r hlt]
  | l32 i k => exact hr
  | bl i => exact hr
  | dig i k => exact hr
  | byt i k => exact hr
  | sg i => exact hr
  | err => exact hr
  | ac => exact hr
  | sy r i =>
    obtain ⟨hv, hlt, hs⟩ := hr
    refine ⟨?_, Nat.lt_of_lt_of_le hlt hn, hs⟩
    rw [hv, syV, syV, at_, at_, h r hlt]
  | sl r o m =>
    obtain ⟨c, hc, hv, hlt⟩ := hr
    refine ⟨c, hc, ?_, Nat.lt_of_lt_of_le hlt hn⟩
    rw [hv, at_, at_, h r hlt]
  | sv r o m i =>
    obtain ⟨hv, hc, hlt⟩ := hr
    refine ⟨?_, hc, Nat.lt_of_lt_of_le hlt hn⟩
    rw [hv, at_, at_, h r hlt]

mutual
theorem AV.rep_mono {s : Nums} {β β' : Places} {n n' : Nat} (h : Agree β β' n) (hn : n ≤ n') : ∀ {a : AV} {v : Value}, a.rep s β n v → a.rep s β' n' v
  | .one a, _, hr => A0.rep_mono (a := a) h hn hr
  | .two a b, _, hr => by
    obtain ⟨x, y, hv, hx, hy⟩ := hr
    exact ⟨x, y, hv, A0.rep_mono h hn hx, A0.rep_mono h hn hy⟩
  | .agg l, _, hr => by
    obtain ⟨vs, hv, hl, hc⟩ := hr
    exact ⟨vs, hv, hl, fun j a x ha hx => A0.rep_mono h hn (hc j a x ha hx)⟩
  | .tup l, _, hr => by
    obtain ⟨vs, hv, hl⟩ := hr
    exact ⟨vs, hv, AV.repL_mono h hn hl⟩
theorem AV.repL_mono {s : Nums} {β β' : Places} {n n' : Nat} (h : Agree β β' n) (hn : n ≤ n') : ∀ {l : List AV} {vs : List Value}, AV.repL s β n l vs → AV.repL s β' n' l vs
  | [], [], _ => trivial
  | _ :: _, _ :: _, hr => ⟨AV.rep_mono h hn hr.1, AV.repL_mono h hn hr.2⟩
  | [], _ :: _, hr => hr.elim
  | _ :: _, [], hr => hr.elim
end

/-! ### what a cell holds, where it is known -/
def A0.conc (s : Nums) (β : Places) : A0 → Value
  | .any => undef
  | .lit v => v
  | .num k i => .int k (s i : Int)
  | .bit k i => .int k (s i : Int)
  | .limb i k => .int .u64 (lim k (s i) : Int)
  | .ptr r o => .pointer (some (at_ β r o))
  | .slc r o n c => .slice (some (at_ β r o)) n c
  | .l32 i k => .int .i64 ((s i / 2 ^ (32 * k) % 2 ^ 32 : Nat) : Int)
  | .bl i => .bool (s i == 1)
  | .dig i k => .int .u64 (dg k (s i) : Int)
  | .byt i k => .int .u8 (by8 k (s i) : Int)
  | .sg i => .int .i64 (sgn (s i))
  | .sl _ _ _ => undef
  | .sv r o n i => .slice (some (at_ β r o)) n (s i)
  | .err => undef
  | .sy r i => syV s β r i
  | .ac => undef

theorem rep_conc {s : Nums} {β : Places} {n : Nat} {a : A0} {v : Value} (hd : definite a = true) (h : a.rep s β n v) : v = a.conc s β := by
  cases a with
  | any => cases hd
  | lit u => exact h
  | num k i => exact h.1
  | bit k i => exact h.1
  | limb i k => exact h.1
  | ptr r o => exact h.1
  | slc r o m c => exact h.1
  | l32 i k => exact h.1
  | bl i => exact h.1
  | dig i k => exact h.1
  | byt i k => exact h.1
  | sg i => exact h.1
  | sl r o n => cases hd
  | sv r o n i => exact h.1
  | err => cases hd
  | sy r i => exact h.1
  | ac => cases hd

theorem conc_mono {s : Nums} {β β' : Places} {n : Nat} (h : Agree β β' n) {a : A0} {v : Value} (hr : a.rep s β n v) : a.conc s β' = a.conc s β := by
  cases a with
  | ptr r o => simp only [A0.conc, at_, h r hr.2]
  | slc r o m c => simp only [A0.conc, at_, h r hr.2]
  | sy r i => simp only [A0.conc, syV, at_, h r hr.2.1]
  | sv r o m i => simp only [A0.conc, at_, h r hr.2.2]
  | _ => rfl

/-! ### temporaries -/
theorem Tr.get_set_same : ∀ (f : Nat) (t : Tr) (k : Nat) (v : AV), k + 1 < 2 ^ f → (Tr.set f t k v).get k = some v
  | 0, t, k, v, h => by simp at h
  | f + 1, .nil, 0, v, _ => rfl
  | f + 1, .node _ l r, 0, v, _ => rfl
  | f + 1, .nil, k + 1, v, h => by
    have hk : k / 2 + 1 < 2 ^ f := by rw [Nat.pow_succ] at h; omega
    simp only [Tr.set]
    cases hb : (k % 2 == 0) with
    | true => simp only [cond_true, Tr.get, hb]; exact Tr.get_set_same f _ _ v hk
    | false => simp only [cond_false, Tr.get, hb]; exact Tr.get_set_same f _ _ v hk
  | f + 1, .node u l r, k + 1, v, h => by
    have hk : k / 2 + 1 < 2 ^ f := by rw [Nat.pow_succ] at h; omega
    simp only [Tr.set]
    cases hb : (k % 2 == 0) with
    | true => simp only [cond_true, Tr.get, hb]; exact Tr.get_set_same f _ _ v hk
    | false => simp only [cond_false, Tr.get, hb]; exact Tr.get_set_same f _ _ v hk

theorem half_ne {k j : Nat} (h : k ≠ j) (hb : (k % 2 == 0) = (j % 2 == 0)) : k / 2 ≠ j / 2 := by
  intro e
  apply h
  have h1 : (k % 2 = 0) ↔ (j % 2 = 0) := by
    rw [← beq_iff_eq, ← beq_iff_eq (a := j % 2), hb]
  omega

theorem Tr.get_set_other : ∀ (f : Nat) (t : Tr) (k j : Nat) (v : AV), k ≠ j → (Tr.set f t k v).get j = t.get j
  | 0, t, k, j, v, _ => rfl
  | f + 1, .nil, 0, 0, v, h => absurd rfl h
  | f + 1, .nil, 0, j + 1, v, _ => by
    simp only [Tr.set, Tr.get]
    cases (j % 2 == 0) <;> rfl
  | f + 1, .node u l r, 0, 0, v, h => absurd rfl h
  | f + 1, .node u l r, 0, j + 1, v, _ => rfl
  | f + 1, .nil, k + 1, 0, v, _ => by
    simp only [Tr.set]
    cases (k % 2 == 0) <;> rfl
  | f + 1, .node u l r, k + 1, 0, v, _ => by
    simp only [Tr.set]
    cases (k % 2 == 0) <;> rfl
  | f + 1, .nil, k + 1, j + 1, v, h => by
    have hne : k ≠ j := fun e => h (by rw [e])
    simp only [Tr.set]
    cases hb : (k % 2 == 0) with
    | true =>
      simp only [cond_true, Tr.get]
      cases hj : (j % 2 == 0) with
      | true => simp only [cond_true]; rw [Tr.get_set_other f _ _ _ v (half_ne hne (hb.trans hj.symm))]; rfl
      | false => rfl
    | false =>
      simp only [cond_false, Tr.get]
      cases hj : (j % 2 == 0) with
      | true => rfl
      | false => simp only [cond_false]; rw [Tr.get_set_other f _ _ _ v (half_ne hne (hb.trans hj.symm))]; rfl
  | f + 1, .node u l r, k + 1, j + 1, v, h => by
    have hne : k ≠ j := fun e => h (by rw [e])
    simp only [Tr.set]
    cases hb : (k % 2 == 0) with
    | true =>
      simp only [cond_true, Tr.get]
      cases hj : (j % 2 == 0) with
      | true => simp only [cond_true]; rw [Tr.get_set_other f _ _ _ v (half_ne hne (hb.trans hj.symm))]
      | false => rfl
    | false =>
      simp only [cond_false, Tr.get]
      cases hj : (j % 2 == 0) with
      | true => rfl
      | false => simp only [cond_false]; rw [Tr.get_set_other f _ _ _ v (half_ne hne (hb.trans hj.symm))]

/-! ### numbers -/
def Holds (s : Nums) : Nat → List Ex → Prop
  | _, [] => True
  | n, e :: l => s (n - 1) = e.val s ∧ Holds s (n - 1) l

theorem Holds.drop {s : Nums} : ∀ (l m : List Ex) (n : Nat), Holds s (n + l.length) (l ++ m) → Holds s n m
  | [], m, n, h => h
  | e :: l, m, n, h => by
    have h2 := h.2
    rw [show n + (e :: l).length - 1 = n + l.length by simp] at h2
    exact Holds.drop l m n h2

theorem bits_pos (k : IntKind) : 8 ≤ k.bits := by cases k <;> decide
theorem wrap_unsigned {k : IntKind} (h : unsigned k = true) (n : Nat) : k.wrap (n : Int) = ((n % 2 ^ k.bits : Nat) : Int) := by
  cases k with
  | u8 => rw [IntKind.wrap_u8, show IntKind.u8.bits = 8 from rfl]; omega
  | u64 => rw [IntKind.wrap_u64, show IntKind.u64.bits = 64 from rfl]; omega
  | _ => cases h

theorem word_rep {s : Nums} {β : Places} {n : Nat} {k : IntKind} {a : A0} {w : Wd} {v : Value} (h : a.word k = some w) (hr : a.rep s β n v) :
    v = .int k (w.val s : Int) ∧ w.val s < 2 ^ k.bits := by
  have hb := bits_pos k
  cases a with
  | any => cases h
  | limb i k => cases h
  | ptr r o => cases h
  | slc r o m c => cases h
  | sg i => cases h
  | sl r o m => cases h
  | sv r o m i => cases h
  | err => cases h
  | sy r i => cases h
  | ac => cases h
  | l32 i j =>
    obtain ⟨h1, h2⟩ := bif_some h
    cases h2
    have := of_decide_eq_true h1
    subst this
    exact ⟨hr.1, Nat.lt_of_lt_of_le (Nat.mod_lt _ (by decide)) (by decide)⟩
  | bl i => cases h
  | dig i k => cases h
  | byt i j =>
    obtain ⟨h1, h2⟩ := bif_some h
    cases h2
    have := of_decide_eq_true h1
    subst this
    exact ⟨hr.1, Nat.mod_lt _ (by decide)⟩
  | num k' i =>
    obtain ⟨h1, h2⟩ := bif_some h
    cases h2
    have := of_decide_eq_true h1
    subst this
    exact hr
  | bit k' i =>
    obtain ⟨h1, h2⟩ := bif_some h
    cases h2
    have := of_decide_eq_true h1
    subst this
    refine ⟨hr.1, Nat.lt_of_le_of_lt hr.2 ?_⟩
    exact Nat.lt_of_lt_of_le (show 1 < 2 ^ 8 by decide) (Nat.pow_le_pow_right (by decide) hb)
  | lit u =>
    cases u with
    | int k' m =>
      obtain ⟨h1, h2⟩ := bif_some h
      cases h2
      simp only [Bool.and_eq_true, decide_eq_true_eq] at h1
      obtain ⟨⟨rfl, h0⟩, h3⟩ := h1
      obtain ⟨m, rfl⟩ := Int.eq_ofNat_of_zero_le h0
      refine ⟨hr, ?_⟩
      show m < 2 ^ k'.bits
      norm_cast at h3
    | _ => cases h

theorem carry_rep {s : Nums} {β : Places} {n : Nat} {a : A0} {w : Wd} {v : Value} (h : a.carry = some w) (hr : a.rep s β n v) :
    v = .int .u64 (w.val s : Int) ∧ w.val s ≤ 1 := by
  cases a with
  | any => cases h
  | limb i k => cases h
  | ptr r o => cases h
  | slc r o m c => cases h
  | l32 i k => cases h
  | bl i => cases h
  | dig i k => cases h
  | byt i k => cases h
  | sg i => cases h
  | sl r o m => cases h
  | sv r o m i => cases h
  | err => cases h
  | sy r i => cases h
  | ac => cases h
  | num k' i => cases h
  | bit k' i => cases k' <;> first | (cases h; done) | (cases h; exact hr)
  | lit u =>
    cases u with
    | int k' m =>
      cases k' <;> first | (cases h; done) | skip
      obtain ⟨h1, h2⟩ := bif_some h
      cases h2
      simp only [Bool.or_eq_true, decide_eq_true_eq] at h1
      rcases h1 with rfl | rfl
      · exact ⟨hr, Nat.zero_le 1⟩
      · exact ⟨hr, Nat.le_refl 1⟩
    | _ => cases h

theorem carryK_rep {s : Nums} {β : Places} {n : Nat} {k : IntKind} {a : A0} {w : Wd} {v : Value} (h : a.carryK k = some w) (hr : a.rep s β n v) :
    v = .int k (w.val s : Int) ∧ w.val s ≤ 1 := by
  unfold A0.carryK at h
  split at h
  · rename_i k' m
    obtain ⟨h1, h2⟩ := bif_some h
    cases h2
    simp only [Bool.and_eq_true, Bool.or_eq_true, decide_eq_true_eq] at h1
    obtain ⟨rfl, h1⟩ := h1
    have hr' : v = .int k' m := hr
    subst hr'
    rcases h1 with rfl | rfl
    · exact ⟨rfl, Nat.zero_le _⟩
    · exact ⟨rfl, Nat.le_refl _⟩
  · obtain ⟨h1, h2⟩ := bif_some h
    cases h2
    have := of_decide_eq_true h1
    subst this
    exact hr
  · cases h

theorem bits_bits {k : IntKind} (hu : unsigned k = true) {a b : Nat} (ha : a < 2 ^ k.bits) (hb : b < 2 ^ k.bits) (P : Program) (w : World) :
    (Op.intBits .and k (a : Int) (b : Int)).run P w = .ok (.int k ((a &&& b : Nat) : Int)) w ∧ (Op.intBits .or k (a : Int) (b : Int)).run P w = .ok (.int k ((a ||| b : Nat) : Int)) w
      ∧ (Op.intBits .xor k (a : Int) (b : Int)).run P w = .ok (.int k ((a ^^^ b : Nat) : Int)) w := by
  have h1 : (BitVec.ofInt k.bits (a : Int)).toNat = a := by
    rw [BitVec.ofInt_natCast, BitVec.toNat_ofNat]; exact Nat.mod_eq_of_lt ha
  have h2 : (BitVec.ofInt k.bits (b : Int)).toNat = b := by
    rw [BitVec.ofInt_natCast, BitVec.toNat_ofNat]; exact Nat.mod_eq_of_lt hb
  refine ⟨?_, ?_, ?_⟩
  · simp only [Op.intBits, Sem.run_pure, BitVec.toNat_and, h1, h2]
    rw [wrap_unsigned hu, Nat.mod_eq_of_lt (Nat.and_lt_two_pow _ hb)]
  · simp only [Op.intBits, Sem.run_pure, BitVec.toNat_or, h1, h2]
    rw [wrap_unsigned hu, Nat.mod_eq_of_lt (Nat.or_lt_two_pow ha hb)]
  · simp only [Op.intBits, Sem.run_pure, BitVec.toNat_xor, h1, h2]
    rw [wrap_unsigned hu, Nat.mod_eq_of_lt (Nat.xor_lt_two_pow ha hb)]

theorem kd_rep {s : Nums} {β : Places} {n : Nat} {a : A0} {k : IntKind} {v : Value} (h : a.kd = some k) (hr : a.rep s β n v) : ∃ z, v = .int k z := by
  cases a with
  | any => cases h
  | limb i k => cases h
  | ptr r o => cases h
  | slc r o m c => cases h
  | l32 i k => cases h; exact ⟨_, hr.1⟩
  | bl i => cases h
  | dig i k => cases h
  | byt i k => cases h; exact ⟨_, hr.1⟩
  | sg i => cases h
  | sl r o m => cases h
  | sv r o m i => cases h
  | err => cases h
  | sy r i => cases h
  | ac => cases h
  | num k' i => cases h; exact ⟨_, hr.1⟩
  | bit k' i => cases h; exact ⟨_, hr.1⟩
  | lit u => cases u with
    | int k' m => cases h; exact ⟨_, hr⟩
    | _ => cases h

theorem guard_run (op : BinOp) (h : (op matches .eql | .neq) = false) (P : Program) (t : TypeId) (ox oy : Operand) (a b : Value) (w : World) :
    (eqGuard op t ox oy a b).run P w = .ok () w := by
  cases op <;> first | (cases h; done) | rfl

theorem holds_one {s : Nums} {n : Nat} {e : Ex} {m : List Ex} (h : Holds s (n + [e].length) ([e] ++ m)) : s n = e.val s := h.1

theorem shift_run {k : IntKind} (hu : unsigned k = true) {a n : Nat} (hn : n ≤ k.bits) (P : Program) (w : World) :
    (Op.shift .shl k (a : Int) .u64 (n : Int)).run P w = .ok (.int k ((a * 2 ^ n % 2 ^ k.bits : Nat) : Int)) w ∧
    (Op.shift .shr k (a : Int) .u64 (n : Int)).run P w = .ok (.int k ((a / 2 ^ n : Nat) : Int)) w := by
  have h0 : ¬ ((n : Int) < 0) := by omega
  refine ⟨?_, ?_⟩
  · simp only [Op.shift, h0, if_false, Int.toNat_natCast, Nat.min_eq_left hn, Sem.run_pure]
    rw [show (a : Int) * 2 ^ n = ((a * 2 ^ n : Nat) : Int) by push_cast; rfl, wrap_unsigned hu]
  · simp only [Op.shift, h0, if_false, Int.toNat_natCast, Nat.min_eq_left hn, Sem.run_pure]
    congr 2
    rw [show (2 : Int) ^ n = ((2 ^ n : Nat) : Int) by push_cast; rfl, Int.fdiv_eq_ediv_of_nonneg _ (Int.natCast_nonneg _)]
    norm_cast

theorem binOp_run {op : BinOp} (hop : (op matches .eql | .neq) = false) (P : Program) (t : TypeId) (ox oy : Operand) (vx vy u : Value) (w : World) (h : (binOp op t vx vy).run P w = .ok u w) :
    (do eqGuard op t ox oy vx vy; binOp op t vx vy).run P w = .ok u w := by
  rw [Sem.run_bind, guard_run op hop]
  exact h

/-- What 'bin' says: the value, whatever the world. -/
theorem bin_rep {s : Nums} {β : Places} {nr nx : Nat} {op : BinOp} {x y : A0} {vx vy : Value} {av : AV} {l m : List Ex} (h : bin nx op x y = some (av, l))
    (hx : x.rep s β nr vx) (hy : y.rep s β nr vy) (hH : Holds s (nx + l.length) (l ++ m)) (P : Program) (t : TypeId) (ox oy : Operand) :
    ∃ u, av.rep s β nr u ∧ ∀ w : World, (do eqGuard op t ox oy vx vy; binOp op t vx vy).run P w = .ok u w := by
  unfold bin at h
  split at h
  · rename_i a b
    obtain ⟨h1, h2⟩ := bif_some h
    cases h2
    simp only [Bool.and_eq_true, decide_eq_true_eq] at h1
    cases hx; cases hy
    refine ⟨_, rfl, fun w => binOp_run rfl _ _ _ _ _ _ _ _ ?_⟩
    simp only [binOp, Op.intArith, ne_eq, not_true_eq_false, if_false, Sem.run_pure, IntKind.wrap_i64]
    congr 2
    omega
  · rename_i a b
    obtain ⟨h1, h2⟩ := bif_some h
    cases h2
    simp only [Bool.and_eq_true, decide_eq_true_eq] at h1
    cases hx; cases hy
    refine ⟨_, rfl, fun w => binOp_run rfl _ _ _ _ _ _ _ _ ?_⟩
    simp only [binOp, Op.intArith, ne_eq, not_true_eq_false, if_false, Sem.run_pure, IntKind.wrap_i64]
    congr 2
    omega
  · rename_i a b
    obtain ⟨h1, h2⟩ := bif_some h
    cases h2
    simp only [Bool.and_eq_true, decide_eq_true_eq] at h1
    obtain ⟨⟨⟨g1, g2⟩, g3⟩, g4⟩ := h1
    cases hx; cases hy
    refine ⟨_, rfl, fun w => binOp_run rfl _ _ _ _ _ _ _ _ ?_⟩
    have hb : ¬ b = 0 := by omega
    have hq : a.tdiv b = a / b := Int.tdiv_eq_ediv_of_nonneg g1
    have h0 : 0 ≤ a / b := Int.ediv_nonneg g1 (by omega)
    have h9 : a / b ≤ a := Int.ediv_le_self b g1
    simp only [binOp, Op.intDiv, ne_eq, not_true_eq_false, if_false, Sem.run_pure, IntKind.wrap_i64, hb, hq]
    congr 2
    omega
  · cases h
    cases hx; cases hy
    exact ⟨_, rfl, fun w => binOp_run rfl _ _ _ _ _ _ _ _ rfl⟩
  · cases h
    cases hx; cases hy
    exact ⟨_, rfl, fun w => binOp_run rfl _ _ _ _ _ _ _ _ rfl⟩
  · split at h
    · rename_i k hk
      split at h
      · rename_i a ha
        obtain ⟨h1, h2⟩ := bif_some h
        cases h2
        simp only [Bool.and_eq_true, decide_eq_true_eq] at h1
        obtain ⟨⟨⟨hu, h0⟩, h3⟩, h4⟩ := h1
        obtain ⟨n, rfl⟩ := Int.eq_ofNat_of_zero_le h0
        obtain ⟨rfl, hlt⟩ := word_rep ha hx
        cases hy
        have he := holds_one hH
        refine ⟨.int k ((a.val s * 2 ^ n % 2 ^ k.bits : Nat) : Int), ⟨?_, ?_⟩, fun w => binOp_run rfl _ _ _ _ _ _ _ _ ?_⟩
        · rw [he]; rfl
        · rw [he]; exact Nat.mod_lt _ (Nat.two_pow_pos _)
        · exact (shift_run hu h4 P w).1
      · cases h
    · cases h
  · split at h
    · rename_i k hk
      split at h
      · rename_i a ha
        obtain ⟨h1, h2⟩ := bif_some h
        cases h2
        simp only [Bool.and_eq_true, decide_eq_true_eq] at h1
        obtain ⟨⟨⟨hu, h0⟩, h3⟩, h4⟩ := h1
        obtain ⟨n, rfl⟩ := Int.eq_ofNat_of_zero_le h0
        obtain ⟨rfl, hlt⟩ := word_rep ha hx
        cases hy
        have he := holds_one hH
        refine ⟨.int k ((a.val s / 2 ^ n : Nat) : Int), ⟨?_, ?_⟩, fun w => binOp_run rfl _ _ _ _ _ _ _ _ ?_⟩
        · rw [he]; rfl
        · rw [he]; exact Nat.lt_of_le_of_lt (Nat.div_le_self _ _) hlt
        · exact (shift_run hu h4 P w).2
      · cases h
    · cases h
  · split at h
    · rename_i k hk
      split at h
      · rename_i a b ha hb
        obtain ⟨hu, h2⟩ := bif_some h
        obtain ⟨rfl, hlt⟩ := word_rep ha hx
        obtain ⟨rfl, hltb⟩ := word_rep hb hy
        split at h2
        · cases h2
          have he := holds_one hH
          refine ⟨.int k (((a.val s + b.val s) % 2 ^ k.bits : Nat) : Int), ⟨?_, ?_⟩, fun w => binOp_run rfl _ _ _ _ _ _ _ _ ?_⟩
          · rw [he]; rfl
          · rw [he]; exact Nat.mod_lt _ (Nat.two_pow_pos _)
          · simp only [binOp, Op.intArith, ne_eq, not_true_eq_false, if_false, Sem.run_pure]
            rw [show (a.val s : Int) + (b.val s : Int) = ((a.val s + b.val s : Nat) : Int) by push_cast; rfl, wrap_unsigned hu]
        · cases h2
          have he := holds_one hH
          refine ⟨.int k (((a.val s * b.val s) % 2 ^ k.bits : Nat) : Int), ⟨?_, ?_⟩, fun w => binOp_run rfl _ _ _ _ _ _ _ _ ?_⟩
          · rw [he]; rfl
          · rw [he]; exact Nat.mod_lt _ (Nat.two_pow_pos _)
          · simp only [binOp, Op.intArith, ne_eq, not_true_eq_false, if_false, Sem.run_pure]
            rw [show (a.val s : Int) * (b.val s : Int) = ((a.val s * b.val s : Nat) : Int) by push_cast; rfl, wrap_unsigned hu]
        · cases h2
          have he := holds_one hH
          refine ⟨.int k ((a.val s &&& b.val s : Nat) : Int), ⟨?_, ?_⟩, fun w => binOp_run rfl _ _ _ _ _ _ _ _ ?_⟩
          · rw [he]; rfl
          · rw [he]; exact Nat.and_lt_two_pow _ hltb
          · simp only [binOp, ne_eq, not_true_eq_false, if_false]
            exact (bits_bits hu hlt hltb P w).1
        · cases h2
          have he := holds_one hH
          refine ⟨.int k ((a.val s ||| b.val s : Nat) : Int), ⟨?_, ?_⟩, fun w => binOp_run rfl _ _ _ _ _ _ _ _ ?_⟩
          · rw [he]; rfl
          · rw [he]; exact Nat.or_lt_two_pow hlt hltb
          · simp only [binOp, ne_eq, not_true_eq_false, if_false]
            exact (bits_bits hu hlt hltb P w).2.1
        · cases h2
          have he := holds_one hH
          refine ⟨.int k ((a.val s ^^^ b.val s : Nat) : Int), ⟨?_, ?_⟩, fun w => binOp_run rfl _ _ _ _ _ _ _ _ ?_⟩
          · rw [he]; rfl
          · rw [he]; exact Nat.xor_lt_two_pow hlt hltb
          · simp only [binOp, ne_eq, not_true_eq_false, if_false]
            exact (bits_bits hu hlt hltb P w).2.2
        · cases h2
      · cases h
    · cases h

/-- What 'cmp' says. -/
theorem cmp_rep {s : Nums} {β : Places} {nr nx : Nat} {pos : Bool} {x y : A0} {vx vy : Value} {av : AV} {l m : List Ex} (h : cmp nx pos x y = some (av, l))
    (hx : x.rep s β nr vx) (hy : y.rep s β nr vy) (hH : Holds s (nx + l.length) (l ++ m)) (P : Program) (t : TypeId) (ox oy : Operand) :
    ∃ u, av.rep s β nr u ∧ ∀ w : World, (do eqGuard (bif pos then .eql else .neq) t ox oy vx vy; binOp (bif pos then .eql else .neq) t vx vy).run P w = .ok u w := by
  unfold cmp at h
  split at h
  · rename_i a b
    cases h
    cases hx; cases hy
    refine ⟨_, rfl, fun w => ?_⟩
    cases pos with
    | true =>
      simp only [cond_true, eqGuard, binOp, Op.intCmp, Sem.run_bind, ne_eq, not_true_eq_false, if_false]
      have : (a == b) = (decide (a = b) == true) := by cases h : decide (a = b) <;> simp_all
      rw [← this]
      rfl
    | false =>
      simp only [cond_false, eqGuard, binOp, Op.intCmp, Sem.run_bind, ne_eq, not_true_eq_false, if_false]
      have : (a != b) = (decide (a = b) == false) := by cases h : decide (a = b) <;> simp_all
      rw [← this]
      rfl
  split at h
  · rename_i k hk
    split at h
    · rename_i a b ha hb
      cases h
      obtain ⟨rfl, _⟩ := word_rep ha hx
      obtain ⟨rfl, _⟩ := word_rep hb hy
      have he := holds_one hH
      cases pos with
      | true =>
        have he' : s nx = if a.val s = b.val s then 1 else 0 := he
        refine ⟨.bool (((a.val s : Nat) : Int) == ((b.val s : Nat) : Int)), ⟨?_, ?_⟩, fun w => ?_⟩
        · rw [he']
          by_cases e : a.val s = b.val s
          · rw [if_pos e, e]; simp
          · rw [if_neg e]
            have : ¬ ((a.val s : Nat) : Int) = ((b.val s : Nat) : Int) := by omega
            simp [this]
        · rw [he']; split <;> omega
        · simp only [cond_true, eqGuard, binOp, Op.intCmp, Sem.run_bind, ne_eq, not_true_eq_false, if_false]
          rfl
      | false =>
        have he' : s nx = if a.val s = b.val s then 0 else 1 := he
        refine ⟨.bool (((a.val s : Nat) : Int) != ((b.val s : Nat) : Int)), ⟨?_, ?_⟩, fun w => ?_⟩
        · rw [he']
          by_cases e : a.val s = b.val s
          · rw [if_pos e, e]; simp
          · rw [if_neg e]
            have : ¬ ((a.val s : Nat) : Int) = ((b.val s : Nat) : Int) := by omega
            simp [this]
        · rw [he']; split <;> omega
        · simp only [cond_false, eqGuard, binOp, Op.intCmp, Sem.run_bind, ne_eq, not_true_eq_false, if_false]
          rfl
    · cases h
  · cases h

/-- What has been decided is so. -/
def Dec (F : Fix) (s : Nums) : Prop := ∀ i b, F.dec i = some b → s i = b.toNat
theorem truth_rep {F : Fix} {s : Nums} {β : Places} {n : Nat} {av : AV} {v : Value} {b : Bool} (hd : Dec F s) (h : av.truth F = some b) (hr : av.rep s β n v) : v = .bool b := by
  unfold AV.truth at h
  split at h
  · cases h; exact hr
  · rename_i i
    have := hd i b h
    obtain ⟨rfl, _⟩ := hr
    rw [this]
    cases b <;> rfl
  · cases h

theorem conv_rep {s : Nums} {β : Places} {nr nx : Nat} {k' : IntKind} {x : A0} {vx : Value} {av : AV} {l m : List Ex} (h : conv nx k' x = some (av, l))
    (hx : x.rep s β nr vx) (hH : Holds s (nx + l.length) (l ++ m)) :
    ∃ z : Int, vx = .int (x.kd.getD .u64) z ∧ av.rep s β nr (.int k' (k'.wrap z)) := by
  unfold conv at h
  split at h
  · rename_i k i
    obtain ⟨rfl, hlt⟩ := hx
    obtain ⟨hu, h2⟩ := bif_some h
    simp only [Bool.and_eq_true] at hu
    refine ⟨(s i : Int), rfl, ?_⟩
    rw [wrap_unsigned hu.2]
    cases hd : decide (k.bits ≤ k'.bits) with
    | true =>
      rw [hd, cond_true] at h2
      cases h2
      have hlt' : s i < 2 ^ k'.bits := Nat.lt_of_lt_of_le hlt (Nat.pow_le_pow_right (by decide) (of_decide_eq_true hd))
      rw [Nat.mod_eq_of_lt hlt']
      exact ⟨rfl, hlt'⟩
    | false =>
      rw [hd, cond_false] at h2
      cases h2
      have he := holds_one hH
      refine ⟨?_, ?_⟩
      · rw [he]; rfl
      · rw [he]; exact Nat.mod_lt _ (Nat.two_pow_pos _)
  · rename_i k i
    cases h
    obtain ⟨rfl, hle⟩ := hx
    refine ⟨(s i : Int), rfl, ?_⟩
    have hw : k'.wrap (s i : Int) = (s i : Int) := by
      have : s i = 0 ∨ s i = 1 := by omega
      rcases this with e | e <;> rw [e] <;> cases k' <;> rfl
    rw [hw]
    exact ⟨rfl, hle⟩
  · cases h

end P224
/- The executor is right: operations that change no memory. -/
namespace P224
open Go Go.RowKit

theorem run_size {P : Program} {t : TypeId} {i : TypeInfo} (h : P.info? t = some i) (w : World) : (Go.sizeOf t).run P w = .ok i.size w := by
  simp only [Go.sizeOf, typeInfo, Sem.run_bind, run_program, Result.andThen, h, Sem.run_pure]

theorem lookup_mem {r : Nat} {l : List A0} : ∀ {m : List (Nat × List A0)}, lookup r m = some l → (r, l) ∈ m
  | (s, k) :: m, h => by
    simp only [lookup] at h
    cases hb : (s == r) with
    | true =>
      rw [hb, cond_true] at h
      cases h
      have := beq_iff_eq.1 hb
      subst this
      exact List.mem_cons_self
    | false =>
      rw [hb, cond_false] at h
      exact List.mem_cons_of_mem _ (lookup_mem h)

/-- The cells of a region hold what is said of them. -/
def CellsOk (s : Nums) (β : Places) (nr r : Nat) (l : List A0) (w : World) : Prop :=
  ∀ (j : Nat) (x : A0), l[j]? = some x → ∃ v, w.cell? (at_ β r j) = some v ∧ x.rep s β nr v

theorem at_add (β : Places) (r o d : Nat) : (at_ β r o).add d = at_ β r (o + d) := by
  unfold Addr.add at_
  split
  · rename_i h; subst h; rfl
  · simp only [Nat.add_assoc]

/-- The contract of a call, whether of a function with a body or of one that the model stands in for. -/
def Meets (P : Program) (f : FuncId) (args : Array Value) (w : World) (R : Value → World → Prop) : Prop :=
  ∀ (o : Oper) (a : Act) (next : Act → World → Prop) (Q : Exit → Act → World → Prop),
    (∀ v w', R v w' → next (a.put o.dst v) w') → o.upon P a next Q ((callFunc f args).run P w)

/-- At a place lie the four words of an element. -/
def ElemAt (w : World) (b o v : Nat) : Prop :=
  ∀ k, k < 4 → w.cell? ⟨b, o + k, none⟩ = some (.int .u64 (lim k v : Int))
/-- Four cells that may be written. -/
def RoomAt (w : World) (b o : Nat) : Prop :=
  ∀ k, k < 4 → (∃ v, w.cell? ⟨b, o + k, none⟩ = some v) ∧ w.frozen? ⟨b, o + k, none⟩ = false
def words (v : Nat) : List Value := [.int .u64 (lim 0 v : Int), .int .u64 (lim 1 v : Int), .int .u64 (lim 2 v : Int), .int .u64 (lim 3 v : Int)]

abbrev ptrTo (b o : Nat) : Value := .pointer (some ⟨b, o, none⟩)

/-- What a function of two elements does: it leaves f of their numbers at the first place, and hands that place back (or nothing). -/
def Meets2 (P : Program) (g : FuncId) (q : Bool) (f : Nat → Nat → Nat) : Prop :=
  ∀ (w : World) (b o b1 o1 b2 o2 x y : Nat), b < w.heap.size → RoomAt w b o → ElemAt w b1 o1 x → ElemAt w b2 o2 y → x < pq → y < pq →
    Meets P g #[ptrTo b o, ptrTo b1 o1, ptrTo b2 o2] w fun v w' => (q = false → v = ptrTo b o) ∧ Below w.heap.size (w.setCells b o (words (f x y))) w'
def Meets1 (P : Program) (g : FuncId) (q : Bool) (f : Nat → Nat) : Prop :=
  ∀ (w : World) (b o b1 o1 x : Nat), b < w.heap.size → RoomAt w b o → ElemAt w b1 o1 x → x < pq →
    Meets P g #[ptrTo b o, ptrTo b1 o1] w fun v w' => (q = false → v = ptrTo b o) ∧ Below w.heap.size (w.setCells b o (words (f x))) w'

def DigAt (w : World) (b o x : Nat) : Prop := ∀ k, k < 4 → w.cell? ⟨b, o + k, none⟩ = some (.int .u64 (dg k x : Int))
def digsV (x : Nat) : List Value := [.int .u64 (dg 0 x : Int), .int .u64 (dg 1 x : Int), .int .u64 (dg 2 x : Int), .int .u64 (dg 3 x : Int)]
/-- Twenty-eight bytes at a place. -/
def BytesAt (w : World) (b o : Nat) (f : Nat → Nat) : Prop := ∀ k, k < 28 → w.cell? ⟨b, o + k, none⟩ = some (.int .u8 (f k : Int)) ∧ f k < 256
def Room28 (w : World) (b o : Nat) : Prop := ∀ k, k < 28 → (∃ v, w.cell? ⟨b, o + k, none⟩ = some v) ∧ w.frozen? ⟨b, o + k, none⟩ = false
/-- The row of bytes. -/
def bytesRow (f : Nat → Nat) : List Value := (List.range 28).map fun k => .int .u8 (f k : Int)
abbrev slice28 (b o : Nat) : Value := .slice (some ⟨b, o, none⟩) 28 28

open Classical in
def PrimOk (P : Program) (f : FuncId) : Prim → Prop
  | .mul64 => ∀ (x y : Nat) (w : World), x < 2 ^ 64 → y < 2 ^ 64 →
      Meets P f #[.int .u64 (x : Int), .int .u64 (y : Int)] w fun v w' => v = .tuple #[.int .u64 ((x * y / 2 ^ 64 : Nat) : Int), .int .u64 ((x * y % 2 ^ 64 : Nat) : Int)] ∧ Below w.heap.size w w'
  | .add64 => ∀ (x y c : Nat) (w : World), x < 2 ^ 64 → y < 2 ^ 64 → c ≤ 1 →
      Meets P f #[.int .u64 (x : Int), .int .u64 (y : Int), .int .u64 (c : Int)] w fun v w' => v = .tuple #[.int .u64 (((x + y + c) % 2 ^ 64 : Nat) : Int), .int .u64 (((x + y + c) / 2 ^ 64 : Nat) : Int)] ∧ Below w.heap.size w w'
  | .sub64 => ∀ (x y c : Nat) (w : World), x < 2 ^ 64 → y < 2 ^ 64 → c ≤ 1 →
      Meets P f #[.int .u64 (x : Int), .int .u64 (y : Int), .int .u64 (c : Int)] w fun v w' => v = .tuple #[.int .u64 (((x + 2 ^ 64 - y - c) % 2 ^ 64 : Nat) : Int), .int .u64 (((if x < y + c then 1 else 0) : Nat) : Int)] ∧ Below w.heap.size w w'
  | .cmov => ∀ (b o c x y : Nat) (w : World), b < w.heap.size → c ≤ 1 → x < 2 ^ 64 → y < 2 ^ 64 → (∃ v, w.cell? ⟨b, o, none⟩ = some v) → w.frozen? ⟨b, o, none⟩ = false →
      Meets P f #[ptrTo b o, .int .u64 (c : Int), .int .u64 (x : Int), .int .u64 (y : Int)] w fun _ w' => Below w.heap.size (w.setCell ⟨b, o, none⟩ (.int .u64 (((if c = 0 then x else y) : Nat) : Int))) w'
  | .fmul q => Meets2 P f q fun x y => x * y % pq
  | .fadd q => Meets2 P f q fun x y => (x + y) % pq
  | .fsub q => Meets2 P f q fun x y => (x + (pq - y)) % pq
  | .fsq q => Meets1 P f q fun x => x * x % pq
  | .fset => Meets1 P f false fun x => x
  | .finv => ∀ (w : World) (b o b1 o1 x z : Nat), b < w.heap.size → RoomAt w b o → ElemAt w b o z → z < pq → ElemAt w b1 o1 x → x < pq →
      Meets P f #[ptrTo b o, ptrTo b1 o1] w fun v w' => v = ptrTo b o ∧ Below w.heap.size (w.setCells b o (words (finvq x))) w'
  | .fone q => ∀ (w : World) (b o : Nat), b < w.heap.size → RoomAt w b o →
      Meets P f #[ptrTo b o] w fun v w' => (q = false → v = ptrTo b o) ∧ Below w.heap.size (w.setCells b o (words (1 % pq))) w'
  | .fsel => ∀ (w : World) (b o b1 o1 b2 o2 x y c : Nat), b < w.heap.size → RoomAt w b o → ElemAt w b1 o1 x → ElemAt w b2 o2 y → x < pq → y < pq → c ≤ 1 →
      Meets P f #[ptrTo b o, ptrTo b1 o1, ptrTo b2 o2, .int .i64 (c : Int)] w fun v w' => v = ptrTo b o ∧ Below w.heap.size (w.setCells b o (words (if c = 0 then y else x))) w'
  | .fselv => ∀ (w : World) (b o b1 o1 b2 o2 x y c : Nat), b < w.heap.size → RoomAt w b o → ElemAt w b1 o1 x → ElemAt w b2 o2 y → x < pq → y < pq → c ≤ 1 →
      Meets P f #[ptrTo b o, .int .u64 (c : Int), ptrTo b1 o1, ptrTo b2 o2] w fun _ w' => Below w.heap.size (w.setCells b o (words (if c = 0 then x else y))) w'
  | .fB => ∀ w : World, Meets P f #[] w fun v w' => ∃ b, w.heap.size ≤ b ∧ b < w'.heap.size ∧ v = ptrTo b 0 ∧ ElemAt w' b 0 bq ∧ (∀ k, k < 4 → w'.frozen? ⟨b, k, none⟩ = false) ∧ Below w.heap.size w w'
  | .feq => ∀ (w : World) (b1 o1 b2 o2 x y : Nat), ElemAt w b1 o1 x → ElemAt w b2 o2 y → x < pq → y < pq →
      Meets P f #[ptrTo b1 o1, ptrTo b2 o2] w fun v w' => v = .int .i64 (((if x = y then 1 else 0) : Nat) : Int) ∧ Below w.heap.size w w'
  | .fzero => ∀ (w : World) (b1 o1 x : Nat), ElemAt w b1 o1 x → x < pq →
      Meets P f #[ptrTo b1 o1] w fun v w' => v = .int .i64 (((if x = 0 then 1 else 0) : Nat) : Int) ∧ Below w.heap.size w w'
  | .frm => ∀ (w : World) (b o b1 o1 x : Nat), b < w.heap.size → RoomAt w b o → ElemAt w b1 o1 x → x < pq →
      Meets P f #[ptrTo b o, ptrTo b1 o1] w fun _ w' => Below w.heap.size (w.setCells b o (digsV x)) w'
  | .tob => ∀ (w : World) (b o b1 o1 x : Nat), b < w.heap.size → Room28 w b o → DigAt w b1 o1 x →
      Meets P f #[ptrTo b o, ptrTo b1 o1] w fun _ w' => Below w.heap.size (w.setCells b o (bytesRow fun k => by8 k x)) w'
  | .rev => ∀ (w : World) (b o : Nat) (g : Nat → Nat), BytesAt w b o g → (∀ k, k < 28 → w.frozen? ⟨b, o + k, none⟩ = false) →
      Meets P f #[slice28 b o] w fun _ w' => Below w.heap.size (w.setCells b o (bytesRow fun k => g (27 - k))) w'
  | .frb => ∀ (w : World) (b o b1 o1 x : Nat), b < w.heap.size → RoomAt w b o → (BytesAt w b1 o1 fun k => by8 k x) → x < 2 ^ 224 →
      Meets P f #[ptrTo b o, ptrTo b1 o1] w fun _ w' => Below w.heap.size (w.setCells b o (digsV x)) w'
  | .tom => ∀ (w : World) (b o b1 o1 x : Nat), b < w.heap.size → RoomAt w b o → DigAt w b1 o1 x → x < pq →
      Meets P f #[ptrTo b o, ptrTo b1 o1] w fun _ w' => Below w.heap.size (w.setCells b o (words x)) w'
  | .bts => ∀ (w : World) (b o b1 o1 x : Nat), b < w.heap.size → Room28 w b o → ElemAt w b1 o1 x → x < pq →
      Meets P f #[ptrTo b1 o1, ptrTo b o] w fun v w' => v = slice28 b o ∧ Below w.heap.size (w.setCells b o (bytesRow fun k => by8 (27 - k) x)) w'
  | .byN => ∀ (w : World) (b1 o1 x : Nat), ElemAt w b1 o1 x → x < pq →
      Meets P f #[ptrTo b1 o1] w fun v w' => ∃ b, w.heap.size ≤ b ∧ b < w'.heap.size ∧ v = slice28 b 0 ∧ (BytesAt w' b 0 fun k => by8 (27 - k) x) ∧ (∀ k, k < 28 → w'.frozen? ⟨b, k, none⟩ = false) ∧ Below w.heap.size w w'
  | .cmpB => ∀ (w : World) (b1 o1 b2 o2 : Nat) (g h : Nat → Nat), BytesAt w b1 o1 g → BytesAt w b2 o2 h →
      Meets P f #[slice28 b1 o1, slice28 b2 o2] w fun v w' => v = .int .i64 (((if (∀ k, k < 28 → g k = h k) then 1 else 0) : Nat) : Int) ∧ Below w.heap.size w w'


/-! (the contracts of the functions of bytes stand in PrimOk above) -/
/-- A list, some of its places set. -/
def setParts : List Value → List (Nat × Value) → List Value
  | l, [] => l
  | l, (i, v) :: ps => setParts (l.set i v) ps

/-- The worlds in which the regions that may be read hold what is said of them. -/
def Reads (s : Nums) (β : Places) (nr : Nat) (L : Nat → Bool) (m : List (Nat × List A0)) (w : World) : Prop :=
  ∀ r l, L r = true → lookup r m = some l → CellsOk s β nr r l w

/-- The temporaries hold what is said of them. -/
def TmOk (s : Nums) (β : Places) (nr : Nat) (tm : Tr) (a : Act) : Prop := ∀ t x, tm.get t = some x → x.rep s β nr (a.tmps.getD t undef)

def applyOut (s : Nums) (β : Places) (w0 : World) : List (Nat × Nat × A0) → World
  | [] => w0
  | (r, o, x) :: l => (applyOut s β w0 l).setCell (at_ β r o) (x.conc s β)

/-- Bytes lie at a place, and are those of a point or not. -/
def Flag (w : World) (p : Nat × Nat) (n f : Nat) : Prop :=
  ∃ l : List Nat, l.length = n ∧ (∀ z ∈ l, z < 256) ∧ (∀ (k z : Nat), l[k]? = some z → w.cell? ⟨p.1, p.2 + k, none⟩ = some (.int .u8 (z : Int))) ∧ f = isPt l

/-- What the executor's state says of the program's. -/
structure Rel (F : Fix) (s : Nums) (β : Places) (w0 : World) (st : St) (a : Act) (w : World) : Prop where
  size : a.tmps.size = F.nt
  defs : a.defers = []
  tm : TmOk s β st.nr st.tm a
  mem : ∀ r l, lookup r st.mem = some l → r < st.nr ∧ CellsOk s β st.nr r l w
  frz : ∀ r l, lookup r st.mem = some l → (F.nold ≤ r ∨ F.wr r = true) → ∀ j, j < l.length → w.frozen? (at_ β r j) = false
  fresh : ∀ r, F.nold ≤ r → r < st.nr → w0.heap.size ≤ (β r).1 ∧ (β r).1 < w.heap.size ∧ (β r).2 = 0
  dist : ∀ r q, F.nold ≤ r → F.nold ≤ q → r < st.nr → q < st.nr → r ≠ q → (β r).1 ≠ (β q).1
  old : ∀ r, r < F.nold → (β r).1 < w0.heap.size
  sep : ∀ r q, r < F.nold → q < F.nold → F.sep r q = true → (β r).1 ≠ (β q).1
  nold : F.nold ≤ st.nr
  outs : ∀ e ∈ st.out, e.1 < F.nold ∧ ∃ v, e.2.2.rep s β st.nr v
  below : Below w0.heap.size (applyOut s β w0 st.out) w
  dec : Dec F s
  it : ∀ r b p, lookupI r st.it = some (b, p) → F.nold ≤ r ∧ r < st.nr ∧ lookup r st.mem = none ∧ w.heap[(β r).1]? = some (.stringIter b p)
  np : ∀ r i j, F.np r = some (i, j) → r < F.nold ∧ Flag w0 (β r) (s i) (s j)

theorem Rel.npAgree {F : Fix} {s : Nums} {β β' : Places} {w0 : World} {st : St} {a : Act} {w : World} (h : Rel F s β w0 st a w) (hag : Agree β β' st.nr) : ∀ r i j, F.np r = some (i, j) → r < F.nold ∧ Flag w0 (β' r) (s i) (s j) := by
  intro r i j hh
  obtain ⟨h1, h2⟩ := h.np r i j hh
  exact ⟨h1, by rw [hag r (Nat.lt_of_lt_of_le h1 h.nold)]; exact h2⟩

/-- What a call or a store leaves. -/
def After (F : Fix) (s : Nums) (β : Places) (w0 : World) (a : Act) (st st' : St) (av : AV) (x : Value) (w' : World) : Prop :=
  ∃ β', Agree β β' st.nr ∧ av.rep s β' st'.nr x ∧ Rel F s β' w0 st' a w'

/-- The newest numbers only are added. -/
def St.le (st st' : St) : Prop := ∃ l, st'.exs = l ++ st.exs ∧ st'.nx = st.nx + l.length
/-- What the state says once more of numbers and regions: never fewer. -/
structure Grows (st st' : St) : Prop where
  le : St.le st st'
  nr : st.nr ≤ st'.nr

/-- An operation of more kinds that changes no memory is as it is said. -/
def QextOk (P : Program) (q : Fix → (Nat → Bool) → St → Op → Option (AV × List Ex)) : Prop :=
  ∀ {s : Nums} {β : Places} {F : Fix} {L : Nat → Bool} {st : St} {a : Act} {o : Oper} {av : AV} {l m : List Ex}, Dec F s → q F L st o.op = some (av, l) → TmOk s β st.nr st.tm a →
    Holds s (st.nx + l.length) (l ++ m) → ∀ {w0 : World}, Reads s β st.nr L st.mem w0 → ∃ x, av.rep s β st.nr x ∧ ∀ w, Reads s β st.nr L st.mem w → (execOp a.eval o).run P w = .ok (.value x) w
/-- And one that may change memory. -/
def LextOk (P : Program) (q : Fix → St → Op → Option (AV × St)) : Prop :=
  (∀ {F : Fix} {st st' : St} {op : Op} {av : AV}, q F st op = some (av, st') → Grows st st') ∧
  ∀ {s : Nums} {β : Places} {F : Fix} {w0 : World} {st st' : St} {a : Act} {w : World} {o : Oper} {av : AV}, Rel F s β w0 st a w → q F st o.op = some (av, st') → Holds s st'.nx st'.exs →
    ∀ {next : Act → World → Prop} {Q : Exit → Act → World → Prop}, (∀ v w', After F s β w0 a st st' av v w' → next (a.put o.dst v) w') → o.wp P a w next Q

structure Tab.Ok (P : Program) (T : Tab) : Prop where
  mixed : P.follows .mixedOrders = true
  arr : ∀ t n z, T.arr t = some (n, z) → ∃ e i, P.underlying t = some (.array n e) ∧ P.info? e = some i ∧ i.size = z
  fld : ∀ t f d, T.fld t f = some d → ∃ fs fd i, P.underlying t = some (.struct fs) ∧ fs[f]? = some fd ∧ fd.offset = d ∧ P.info? fd.type = some i ∧ i.size ≠ 0
  var : ∀ t g n, T.var t = some (g, n) → (∀ w, (isAgg t).run P w = .ok g w) ∧ ∃ i, P.info? t = some i ∧ i.size = n
  zero : ∀ t l, T.zero t = some l → ∃ i z, P.info? t = some i ∧ i.zero = some z ∧ z.cells = l.toArray
  bld : ∀ t l, T.bld t = some l → ∀ parts : List (Nat × Value), (∀ p ∈ parts, p.1 < l.length ∧ p.2.oneCell' = true) → P.built t parts = some (setParts l parts).toArray
  slc : ∀ t z, T.slc t = some z → ∃ e i, P.underlying t = some (.slice e) ∧ P.info? e = some i ∧ i.size = z
  mks : ∀ t z, T.mks t = some z → ∀ (n : Nat) (w : World), n < 1000000 → ∃ e, (Instr.makeSlice t (.int .i64 (n : Int)) (.int .i64 (n : Int))).run P w = .ok (.slice (some ⟨w.heap.size, 0, none⟩) n n) (w.alloc (.cells (List.replicate n z).toArray e (0, 0)))
  kind : ∀ t k, T.kind t = some k → P.underlying t = some (.int k)
  elem : ∀ t, T.elem t = true → T.zero t = some [.int .u64 0, .int .u64 0, .int .u64 0, .int .u64 0]
  prim : ∀ f p, T.prim f = some p → PrimOk P f p
  qext : QextOk P T.qext
  lext : LextOk P T.lext

section
variable {P : Program} {T : Tab} {s : Nums} {β : Places}

theorem ev_rep {st : St} {a : Act} (h : TmOk s β st.nr st.tm a) (x : Operand) : (st.ev x).rep s β st.nr (a.eval x) := by
  cases x with
  | tmp t =>
    show ((st.tm.get t).getD (.one .any)).rep s β st.nr (a.tmps.getD t undef)
    cases hg : st.tm.get t with
    | none => trivial
    | some y => exact h t y hg
  | const v => exact rfl
  | global g => trivial
  | func f => trivial

theorem cellsAt_ok {m : List (Nat × List A0)} {r o n nr : Nat} {l : List A0} (h : cellsAt m r o n = some l) :
    ∃ k, lookup r m = some k ∧ l.length = n ∧ o + n ≤ k.length ∧ ∀ j, j < n → l[j]? = k[o + j]? := by
  have _ := nr
  unfold cellsAt at h
  split at h
  · rename_i k hk
    obtain ⟨h1, h2⟩ := bif_some h
    cases h2
    have hle := of_decide_eq_true h1
    refine ⟨k, hk, ?_, hle, fun j hj => ?_⟩
    · rw [List.length_take, List.length_drop]; omega
    · rw [List.getElem?_take_of_lt hj, List.getElem?_drop]
  · cases h

theorem load_cells {P : Program} {w : World} {a : Addr} : ∀ (vs : List Value) (i : Nat) (acc : Array Value),
    (∀ j x, vs[j]? = some x → w.cell? (a.add (i + j)) = some x) → (loadCellsFrom a i vs.length acc).run P w = .ok (acc ++ vs.toArray) w
  | [], i, acc, _ => by simp [loadCellsFrom]
  | v :: vs, i, acc, h => by
    have h0 := h 0 v rfl
    rw [Nat.add_zero] at h0
    simp only [List.length_cons, loadCellsFrom, Sem.run_bind, run_load, h0, Result.andThen]
    rw [load_cells vs (i + 1) (acc.push v) (fun j x hx => by have := h (j + 1) x hx; rwa [Nat.add_right_comm, Nat.add_assoc])]
    simp

theorem oneCell_conc {x : A0} (h : definite x = true) : (x.conc s β).oneCell' = true := by
  cases x with
  | any => cases h
  | lit v => cases v <;> first | rfl | (cases h; done)
  | sl r o n => cases h
  | err => cases h
  | sy r i => simp only [A0.conc, syV]; split <;> rfl
  | ac => cases h
  | _ => rfl

/-- A struct built of parts. -/
theorem build_rep {st : St} {a : Act} (ht : TmOk s β st.nr st.tm a) : ∀ {ps : List (Nat × Operand)} {acc cells : List A0} {zs : List Value}, buildCells st acc ps = some cells → zs.length = acc.length →
    (∀ (j : Nat) x v, acc[j]? = some x → zs[j]? = some v → x.rep s β st.nr v) →
    (∀ p ∈ ps.map (fun p => (p.1, a.eval p.2)), p.1 < acc.length ∧ p.2.oneCell' = true) ∧ cells.length = acc.length ∧ (setParts zs (ps.map fun p => (p.1, a.eval p.2))).length = cells.length ∧
    ∀ (j : Nat) x v, cells[j]? = some x → (setParts zs (ps.map fun p => (p.1, a.eval p.2)))[j]? = some v → x.rep s β st.nr v
  | [], acc, cells, zs, h, hl, hr => by
    cases h
    exact ⟨fun p hp => by simp at hp, rfl, hl, hr⟩
  | (i, x) :: ps, acc, cells, zs, h, hl, hr => by
    rw [buildCells] at h
    split at h
    · rename_i y hy
      obtain ⟨h1, h2⟩ := bif_some h
      simp only [Bool.and_eq_true, decide_eq_true_eq] at h1
      have hv := ev_rep ht x
      rw [hy] at hv
      have hc := rep_conc h1.1 hv
      obtain ⟨g1, g2, g3, g4⟩ := build_rep ht (zs := zs.set i (a.eval x)) h2 (by simp [hl]) (fun j u v hu hv' => by
        rw [List.getElem?_set] at hu hv'
        by_cases hij : i = j
        · subst hij
          rw [if_pos rfl, if_pos (by omega)] at hu hv'
          cases hu; cases hv'
          exact hv
        · rw [if_neg hij] at hu hv'
          exact hr j u v hu hv')
      rw [List.length_set] at g1 g2
      refine ⟨fun p hp => ?_, g2, g3, g4⟩
      simp only [List.map_cons, List.mem_cons] at hp
      rcases hp with rfl | hp
      · exact ⟨h1.2, by rw [hc]; exact oneCell_conc h1.1⟩
      · exact g1 p hp
    · cases h

theorem quiet0_rep (hT : T.Ok P) {F : Fix} (hd : Dec F s) {L : Nat → Bool} {st : St} {a : Act} {o : Oper} {av : AV} {l m : List Ex} (h : quiet0 T F L st o.op = some (av, l)) (ht : TmOk s β st.nr st.tm a)
    (hH : Holds s (st.nx + l.length) (l ++ m)) {w0 : World} (hw0 : Reads s β st.nr L st.mem w0) : ∃ x, av.rep s β st.nr x ∧ ∀ w, Reads s β st.nr L st.mem w → (execOp a.eval o).run P w = .ok (.value x) w := by
  unfold quiet0 at h
  split at h
  · rename_i x ho; cases h
    exact ⟨_, ev_rep ht x, fun w _ => by simp only [execOp, ho, Sem.run_pure]⟩
  · rename_i x ho; cases h
    exact ⟨_, ev_rep ht x, fun w _ => by simp only [execOp, ho, Sem.run_pure]⟩
  · rename_i x ho
    split at h
    · rename_i r d hx; cases h
      have hr := ev_rep ht x
      rw [hx] at hr
      refine ⟨_, hr, fun w _ => ?_⟩
      simp only [execOp, ho, hr.1, Sem.run_pure]
    · cases h
  · rename_i t x f ho
    split at h
    · rename_i r d e hx hf; cases h
      have hr := ev_rep ht x
      rw [hx] at hr
      obtain ⟨fs, fd, i, h1, h2, h3, h4, h5⟩ := hT.fld _ _ _ hf
      refine ⟨.pointer (some (at_ β r (d + e))), ⟨rfl, hr.2⟩, fun w _ => ?_⟩
      simp only [execOp, ho, hr.1, Instr.fieldAt, Instr.sureAddr, Sem.run_bind, Sem.run_pure, run_underlying h1, Result.andThen, h2, fieldPlace, run_size h4, h5, if_false, h3, at_add]
    · cases h
  · rename_i t x i ho
    split at h
    · rename_i r d k n len z hx hi hf
      obtain ⟨hd, h2⟩ := bif_some h
      cases h2
      simp only [Bool.and_eq_true, decide_eq_true_eq] at hd
      have hr := ev_rep ht x
      rw [hx] at hr
      have hi' := ev_rep ht i
      rw [hi] at hi'
      obtain ⟨e, inf, h1, h2, h3⟩ := hT.arr _ _ _ hf
      refine ⟨.pointer (some (at_ β r (d + n.toNat * z))), ⟨rfl, hr.2⟩, fun w _ => ?_⟩
      have hi'' : a.eval i = .int k n := hi'
      simp only [execOp, ho, hr.1, hi'', Instr.indexAt, asIntOf, Instr.sureAddr, Sem.run_bind, Sem.run_pure, run_underlying h1, Result.andThen, run_size h2, hd, and_self, if_true, h3, at_add]
    · rename_i r d len cap k n hx hi _
      split at h
      · rename_i z hf
        obtain ⟨hd, h2⟩ := bif_some h
        cases h2
        simp only [Bool.and_eq_true, decide_eq_true_eq] at hd
        have hr := ev_rep ht x
        rw [hx] at hr
        have hi' := ev_rep ht i
        rw [hi] at hi'
        obtain ⟨e, inf, h1, h2, h3⟩ := hT.slc _ _ hf
        refine ⟨.pointer (some (at_ β r (d + n.toNat * z))), ⟨rfl, hr.2⟩, fun w _ => ?_⟩
        have hi'' : a.eval i = .int k n := hi'
        simp only [execOp, ho, hr.1, hi'', Instr.indexAt, asIntOf, Sem.run_bind, Sem.run_pure, run_underlying h1, Result.andThen, run_size h2, hd, and_self, if_true, h3, at_add]
      · cases h
    · cases h
  · rename_i t x ho
    split at h
    · rename_i r d n hx hv
      obtain ⟨hL, h2⟩ := bif_some h
      split at h2
      · rename_i c hc
        obtain ⟨hdef, h3⟩ := bif_some h2
        cases h3
        have hr := ev_rep ht x
        rw [hx] at hr
        obtain ⟨k, hk, _, hle, hj⟩ := cellsAt_ok (nr := 0) hc
        have hj0 := hj 0 (by omega)
        rw [Nat.add_zero] at hj0
        obtain ⟨v, _, hv2⟩ := hw0 r k hL hk d c hj0.symm
        refine ⟨v, hv2, fun w hw => ?_⟩
        obtain ⟨v', hv1', hv2'⟩ := hw r k hL hk d c hj0.symm
        have : v' = v := (rep_conc hdef hv2').trans (rep_conc hdef hv2).symm
        subst this
        have hag := (hT.var _ _ _ hv).1 w
        simp only [execOp, ho, hr.1, Instr.loadAt, Instr.sureAddr, Sem.run_bind, Sem.run_pure, Result.andThen, loadVar, hag, Bool.false_eq_true, if_false, run_load, hv1']
      · cases h2
    · rename_i r d n hx hv
      obtain ⟨hL, h2⟩ := bif_some h
      split at h2
      · rename_i k hk
        obtain ⟨hdef, h3⟩ := bif_some h2
        cases h3
        have hr := ev_rep ht x
        rw [hx] at hr
        obtain ⟨c, hc, hlen, hle, hj⟩ := cellsAt_ok (nr := 0) hk
        have hdef' : ∀ (j : Nat) y, k[j]? = some y → definite y = true := fun j y hy => List.all_eq_true.1 hdef y (List.mem_of_getElem? hy)
        have hat : ∀ (j : Nat) y, k[j]? = some y → c[d + j]? = some y := fun j y hy => by
          rw [← hj j (by have := (List.getElem?_eq_some_iff.1 hy).1; omega)]; exact hy
        have hval : ∀ (w : World), Reads s β st.nr L st.mem w → ∀ (j : Nat) y, k[j]? = some y → w.cell? (at_ β r (d + j)) = some (y.conc s β) ∧ y.rep s β st.nr (y.conc s β) := fun w hw j y hy => by
          obtain ⟨v, hv1, hv2⟩ := hw r c hL hc (d + j) y (hat j y hy)
          have := rep_conc (hdef' j y hy) hv2
          subst this
          exact ⟨hv1, hv2⟩
        refine ⟨.agg (k.map (A0.conc s β)).toArray, ⟨k.map (A0.conc s β), rfl, by simp, fun j y v hy hv => ?_⟩, fun w hw => ?_⟩
        · rw [List.getElem?_map, hy] at hv
          cases hv
          exact (hval w0 hw0 j y hy).2
        · obtain ⟨hag, i, hi, hsz⟩ := hT.var _ _ _ hv
          have hcells := load_cells (P := P) (w := w) (a := at_ β r d) (k.map (A0.conc s β)) 0 #[] (fun j v hv => by
            rw [List.getElem?_map] at hv
            cases hy : k[j]? with
            | none => rw [hy] at hv; cases hv
            | some y =>
              rw [hy] at hv
              cases hv
              rw [Nat.zero_add, at_add]
              exact (hval w hw j y hy).1)
          rw [List.length_map, hlen] at hcells
          simp only [execOp, ho, hr.1, Instr.loadAt, Instr.sureAddr, Sem.run_bind, Sem.run_pure, Result.andThen, loadVar, hag w, if_true, run_size hi, hsz, loadCells, hcells, Array.empty_append]
      · cases h2
    · cases h
  · rename_i t x y t' ho
    split at h
    · rename_i p q hp hq
      have hx := ev_rep ht x
      have hy := ev_rep ht y
      rw [hp] at hx
      rw [hq] at hy
      obtain ⟨u, hu, hw⟩ := cmp_rep h hx hy hH P t x y
      refine ⟨u, hu, fun w _ => ?_⟩
      have := hw w
      simp only [execOp, ho, Sem.run_bind, cond_true] at this ⊢
      rw [this]
      rfl
    · cases h
  · rename_i t x y t' ho
    split at h
    · rename_i p q hp hq
      have hx := ev_rep ht x
      have hy := ev_rep ht y
      rw [hp] at hx
      rw [hq] at hy
      obtain ⟨u, hu, hw⟩ := cmp_rep h hx hy hH P t x y
      refine ⟨u, hu, fun w _ => ?_⟩
      have := hw w
      simp only [execOp, ho, Sem.run_bind, cond_false] at this ⊢
      rw [this]
      rfl
    · cases h
  · rename_i c x y ho
    split at h
    · rename_i hc
      cases h
      have hcv := truth_rep hd hc (ev_rep ht c)
      refine ⟨_, ev_rep ht x, fun w _ => ?_⟩
      simp only [execOp, ho, hcv, asBool, Sem.run_bind, Sem.run_pure]
      rfl
    · rename_i hc
      cases h
      have hcv := truth_rep hd hc (ev_rep ht c)
      refine ⟨_, ev_rep ht y, fun w _ => ?_⟩
      simp only [execOp, ho, hcv, asBool, Sem.run_bind, Sem.run_pure]
      rfl
    · cases h
  · rename_i t parts ho
    split at h
    · rename_i zs hz
      split at h
      · rename_i cells hcells
        cases h
        obtain ⟨g1, g2, g3, g4⟩ := build_rep ht (zs := zs) hcells (by simp [litCells]) (fun j x v hx hv => by
          rw [litCells, List.getElem?_map, hv] at hx
          cases hx
          exact rfl)
        rw [litCells, List.length_map] at g1
        have hb := hT.bld _ _ hz _ g1
        refine ⟨.agg (setParts zs (parts.toList.map fun p => (p.1, a.eval p.2))).toArray, ⟨_, rfl, g3, g4⟩, fun w _ => ?_⟩
        have := run_build w t (parts.map fun p => (p.1, a.eval p.2)) _ (by rw [Array.toList_map]; exact hb)
        simp only [execOp, ho, Sem.run_bind, this, Result.andThen, Sem.run_pure]
      · cases h
    · cases h
  · rename_i t x ho
    split at h
    · rename_i r d n z hx hf
      cases h
      have hr := ev_rep ht x
      rw [hx] at hr
      obtain ⟨e, inf, h1, h2, h3⟩ := hT.arr _ _ _ hf
      refine ⟨.slice (some (at_ β r d)) n n, ⟨rfl, hr.2⟩, fun w _ => ?_⟩
      simp only [execOp, ho, hr.1, Instr.sliceAt, Instr.sliceBounds, Instr.sureAddr, Option.map_none, Sem.run_bind, Sem.run_pure, run_underlying h1, Result.andThen, run_size h2]
      rw [at_add, Nat.zero_mul, Nat.add_zero, ite_self, Nat.sub_zero]
    · cases h
  · rename_i c ho
    split at h
    · rename_i x hcal hargs
      split at h
      · rename_i r d n cap t hx htys
        split at h
        · rename_i z hz
          obtain ⟨hlt, h2⟩ := bif_some h
          cases h2
          have hr := ev_rep ht x
          rw [hx] at hr
          obtain ⟨e, inf, h1, h2, h3⟩ := hT.slc _ _ hz
          refine ⟨.int .i64 n, rfl, fun w _ => ?_⟩
          have hargs' : c.args = #[x] := by rw [← Array.toList_inj]; exact hargs
          have htys' : c.argTypes = #[t] := by rw [← Array.toList_inj]; exact htys
          simp only [execOp, ho, resolve, hcal, hargs', htys', Sem.run_bind, Sem.run_pure, Result.andThen, invoke, builtin, Builtin.len_, List.map_toArray, List.map_cons, List.map_nil, List.getElem?_toArray, List.getElem?_cons_zero, run_underlying h1, hr.1]
          rfl
        · cases h
      · cases h
    · cases h
  · rename_i op t x y t' hne1 hne2 ho
    split at h
    · rename_i p q hp hq
      have hx := ev_rep ht x
      have hy := ev_rep ht y
      rw [hp] at hx
      rw [hq] at hy
      obtain ⟨u, hu, hw⟩ := bin_rep h hx hy hH P t x y
      refine ⟨u, hu, fun w _ => ?_⟩
      have := hw w
      simp only [execOp, ho, Sem.run_bind] at this ⊢
      rw [this]
      rfl
    · cases h
  · rename_i op t x ho
    split at h
    · rename_i p hp
      split at h
      · rename_i wd hwd
        cases h
        have hx := ev_rep ht x
        rw [hp] at hx
        obtain ⟨hv, hlt⟩ := word_rep hwd hx
        have he := holds_one hH
        have hb := (bits_bits (k := .u64) rfl (a := 2 ^ 64 - 1) (b := wd.val s) (by decide) hlt P)
        refine ⟨.int .u64 (((2 ^ 64 - 1) ^^^ wd.val s : Nat) : Int), ⟨by rw [he]; rfl, by rw [he]; exact Nat.xor_lt_two_pow (by decide) hlt⟩, fun w _ => ?_⟩
        have := (hb w).2.2
        simp only [execOp, ho, hv, Op.unary, Sem.run_bind]
        rw [show (if IntKind.u64.signed = true then (-1 : Int) else IntKind.u64.max) = ((2 ^ 64 - 1 : Nat) : Int) from rfl, this]
        rfl
      · cases h
    · rename_i b hp
      cases h
      have hx := ev_rep ht x
      rw [hp] at hx
      refine ⟨.bool !b, rfl, fun w _ => ?_⟩
      have hx' : a.eval x = .bool b := hx
      simp only [execOp, ho, hx', Op.unary, Sem.run_bind, Sem.run_pure]
      rfl
    · rename_i i hp
      cases h
      have hx := ev_rep ht x
      rw [hp] at hx
      obtain ⟨hv, hle⟩ := hx
      have he : s st.nx = if s i = 0 then 1 else 0 := holds_one hH
      refine ⟨.bool !(s i == 1), ⟨?_, ?_⟩, fun w _ => ?_⟩
      · rw [he]
        have : s i = 0 ∨ s i = 1 := by omega
        rcases this with e | e <;> rw [e] <;> rfl
      · rw [he]; split <;> omega
      · simp only [execOp, ho, hv, Op.unary, Sem.run_bind, Sem.run_pure]
        rfl
    · cases h
  · rename_i sr ds x ho
    split at h
    · rename_i k k' p hk hk' hp
      have hx := ev_rep ht x
      rw [hp] at hx
      obtain ⟨z, hz, hr⟩ := conv_rep h hx hH
      refine ⟨_, hr, fun w _ => ?_⟩
      simp only [execOp, ho, hz, convert, Sem.run_bind, run_underlying (hT.kind _ _ hk), run_underlying (hT.kind _ _ hk'), Result.andThen, Conv.intToInt, Sem.run_pure]
    · cases h
  · rename_i x i ho
    split at h
    · rename_i p q hp
      cases h
      have hx := ev_rep ht x
      rw [hp] at hx
      obtain ⟨u, v, hv, hu, _⟩ := hx
      refine ⟨u, hu, fun w _ => ?_⟩
      simp only [execOp, ho, hv, Instr.extract, Sem.run_bind]
      rfl
    · rename_i p q hp
      cases h
      have hx := ev_rep ht x
      rw [hp] at hx
      obtain ⟨u, v, hv, _, hu⟩ := hx
      refine ⟨v, hu, fun w _ => ?_⟩
      simp only [execOp, ho, hv, Instr.extract, Sem.run_bind]
      rfl
    · cases h
  · cases h

theorem quiet_rep (hT : T.Ok P) {F : Fix} (hd : Dec F s) {L : Nat → Bool} {st : St} {a : Act} {o : Oper} {av : AV} {l m : List Ex} (h : quiet T F L st o.op = some (av, l)) (ht : TmOk s β st.nr st.tm a)
    (hH : Holds s (st.nx + l.length) (l ++ m)) {w0 : World} (hw0 : Reads s β st.nr L st.mem w0) : ∃ x, av.rep s β st.nr x ∧ ∀ w, Reads s β st.nr L st.mem w → (execOp a.eval o).run P w = .ok (.value x) w := by
  unfold quiet at h
  split at h
  · rename_i r hr
    cases h
    exact hT.qext hd hr ht hH hw0
  · exact quiet0_rep hT hd h ht hH hw0

end
end P224
/- Plain law: what the package's formulas and the reference's slopes come to, as points. No program in sight. -/
namespace P224
set_option linter.unusedVariables false

theorem pq_is : pq = pp := rfl
theorem bq_is : bq = bN := rfl
theorem fi_finvq (x : Nat) : fi pp (finvq x) = finv (fi pp x) := by
  rw [finvq_def, pq_is, fi_mod, finv, Fin.ext_iff, fi_val, fin_ofNat_val, fi_val]
  exact (Nat.pow_mod x (pp - 2) pp)
theorem lt_pp {x : Nat} (h : x < pq) : x < pp := h
theorem of_fi {a : Nat} {c : Fin pp} (h : fi pp a = c) (ha : a < pp) : a = c.val := by
  rw [← h, fi_val, Nat.mod_eq_of_lt ha]
theorem fi_ne {a : Nat} (ha : a < pp) (h : a ≠ 0) : fi pp a ≠ 0 := by
  intro e
  have := of_fi e ha
  rw [Fin.val_zero] at this
  exact h this
theorem pos_pp : 0 < pp := Nat.pos_of_ne_zero (NeZero.ne pp)

/-- Three coordinates read as a point. -/
theorem rep_aff {X Y Z : Nat} {p : Pt pp} (hZ : Z < pq) (h : Rep (toTri pp (X, Y, Z)) p) :
    (farOf p = 1 ∧ p = .far ∧ Z = 0) ∨ (farOf p = 0 ∧ p = ptN (xOf p) (yOf p) ∧ Z ≠ 0 ∧ X * finvq Z % pq = xOf p ∧ Y * finvq Z % pq = yOf p) := by
  have hZ := lt_pp hZ
  cases p with
  | far =>
    obtain ⟨_, _, h3⟩ := h
    have h3' : fi pp Z = 0 := h3
    have := of_fi h3' hZ
    exact .inl ⟨rfl, rfl, by rw [this, Fin.val_zero]⟩
  | pt a c =>
    obtain ⟨h1, h2, h3⟩ := h
    have h1' : fi pp Z ≠ 0 := h1
    have h2' : fi pp X = a * fi pp Z := h2
    have h3' : fi pp Y = c * fi pp Z := h3
    have hi := mul_finv fine.prime h1'
    refine .inr ⟨rfl, by rw [xOf, yOf, ptN, fi_self, fi_self], fun e => h1' (by rw [e]; rfl), ?_, ?_⟩
    · rw [pq_is]
      refine of_fi (c := a) ?_ (Nat.mod_lt _ pos_pp)
      rw [fi_mod, fi_mul, fi_finvq, h2', Fin.mul_assoc, hi, Fin.mul_one]
    · rw [pq_is]
      refine of_fi (c := c) ?_ (Nat.mod_lt _ pos_pp)
      rw [fi_mod, fi_mul, fi_finvq, h3', Fin.mul_assoc, hi, Fin.mul_one]

/-- The complete sum of two points, each by three coordinates. -/
theorem add_aff {t u : T3} {p q : Pt pp} (hp : OnC bb p) (hq : OnC bb q) (ht : Rep (toTri pp t) p) (hu : Rep (toTri pp u) q) {X Y Z : Nat}
    (hX : X = sxN pq bq t.1 t.2.1 t.2.2 u.1 u.2.1 u.2.2) (hY : Y = syN pq bq t.1 t.2.1 t.2.2 u.1 u.2.1 u.2.2) (hZ : Z = szN pq bq t.1 t.2.1 t.2.2 u.1 u.2.1 u.2.2) (hlt : Z < pq) :
    (farOf (padd p q) = 1 ∧ padd p q = .far ∧ Z = 0) ∨ (farOf (padd p q) = 0 ∧ padd p q = ptN (xOf (padd p q)) (yOf (padd p q)) ∧ Z ≠ 0 ∧ X * finvq Z % pq = xOf (padd p q) ∧ Y * finvq Z % pq = yOf (padd p q)) := by
  have h := rep_addN fine bb_eq hp hq ht hu
  refine rep_aff hlt ?_
  rw [hX, hY, hZ]
  exact h

theorem dbl_aff {X1 Y1 Z1 : Nat} {p : Pt pp} (hp : OnC bb p) (ht : Rep (toTri pp (X1, Y1, Z1)) p) {X Y Z : Nat}
    (hX : X = sxN pq bq X1 Y1 Z1 X1 Y1 Z1) (hY : Y = syN pq bq X1 Y1 Z1 X1 Y1 Z1) (hZ : Z = 8 * (Y1 * Y1 * Y1) * Z1 % pq) :
    (farOf (padd p p) = 1 ∧ padd p p = .far ∧ Z = 0) ∨ (farOf (padd p p) = 0 ∧ padd p p = ptN (xOf (padd p p)) (yOf (padd p p)) ∧ Z ≠ 0 ∧ X * finvq Z % pq = xOf (padd p p) ∧ Y * finvq Z % pq = yOf (padd p p)) := by
  have h := rep_dbl fine hp ht
  refine rep_aff (by rw [hZ]; exact Nat.mod_lt _ pos_pp) ?_
  have e : toTri pp (X, Y, Z) = tdbl bb (toTri pp (X1, Y1, Z1)) := by
    unfold toTri tdbl
    rw [hX, hY, hZ]
    have e1 := fi_sxN (n := pp) bN X1 Y1 Z1 X1 Y1 Z1
    have e2 := fi_syN (n := pp) bN X1 Y1 Z1 X1 Y1 Z1
    rw [← bb_eq] at e1 e2
    have e3 : fi pp (8 * (Y1 * Y1 * Y1) * Z1 % pq) = 8 * (fi pp Y1 * fi pp Y1 * fi pp Y1) * fi pp Z1 := by
      rw [pq_is, fi_mod, fi_mul, fi_mul, fi_mul, fi_mul]
      rfl
    simp only []
    rw [e3]
    show Tri.mk (fi pp (sxN pp bN X1 Y1 Z1 X1 Y1 Z1)) (fi pp (syN pp bN X1 Y1 Z1 X1 Y1 Z1)) _ = _
    rw [e1, e2]
  rw [e]
  exact h

/-! ### the reference's slopes -/
theorem emod_aux (x y p : Nat) (hp : 0 < p) : (((x : Int) - y) % (p : Int)) = ((x + (p - y % p) : Nat) : Int) % (p : Int) := by
  have hy : y % p ≤ p := Nat.le_of_lt (Nat.mod_lt _ hp)
  have h2 : (y : Int) = (p : Int) * (y / p : Nat) + (y % p : Nat) := by exact_mod_cast (Nat.div_add_mod y p).symm
  rw [Int.natCast_add, Int.natCast_sub hy]
  have : (x : Int) - y = ((x : Int) + ((p : Int) - (y % p : Nat))) + p * (-1 - (y / p : Nat)) := by
    rw [Int.mul_sub]; omega
  rw [this, Int.add_mul_emod_self_left]
theorem fi_int (x y : Nat) : fi pp ((((x : Int) - y) % (pq : Int)).toNat) = fi pp x - fi pp y := by
  have hy : y % pp ≤ pp := Nat.le_of_lt (Nat.mod_lt _ pos_pp)
  have h1 := fi_sub (n := pp) (a := x) hy
  rw [fi_mod] at h1
  rw [← h1, fi_eq]
  have e := emod_aux x y pp pos_pp
  rw [pq_is, e, ← Int.natCast_emod, Int.toNat_natCast, Nat.mod_mod]

/-- The chord. -/
theorem chord_aff {x1 y1 x2 y2 l x y : Nat} (hx1 : x1 < pq) (hx2 : x2 < pq) (hne : x1 ≠ x2)
    (hl : fi pp l = (fi pp y2 - fi pp y1) * finv (fi pp x2 - fi pp x1)) (hx : fi pp x = fi pp l * fi pp l - fi pp x1 - fi pp x2) (hy : fi pp y = fi pp l * (fi pp x1 - fi pp x) - fi pp y1) (lx : x < pq) (ly : y < pq) :
    farOf (addN x1 y1 x2 y2) = 0 ∧ x = xOf (addN x1 y1 x2 y2) ∧ y = yOf (addN x1 y1 x2 y2) := by
  have hn : fi pp x1 ≠ fi pp x2 := fun e => hne (by
    have := fi_eq.1 e
    rwa [Nat.mod_eq_of_lt (lt_pp hx1), Nat.mod_eq_of_lt (lt_pp hx2)] at this)
  have e : addN x1 y1 x2 y2 = .pt (fi pp x) (fi pp y) := by
    unfold addN ptN
    rw [hy, hx, hl]
    simp only [padd, if_pos hn]
  rw [e]
  refine ⟨rfl, ?_, ?_⟩
  · rw [xOf, fi_val, Nat.mod_eq_of_lt (lt_pp lx)]
  · rw [yOf, fi_val, Nat.mod_eq_of_lt (lt_pp ly)]

/-- The tangent. -/
theorem tangent_aff {x1 y1 l x y : Nat} (hy1 : y1 < pq) (hne : y1 ≠ 0)
    (hl : fi pp l = (3 * (fi pp x1 * fi pp x1) - 3) * finv (fi pp y1 + fi pp y1)) (hx : fi pp x = fi pp l * fi pp l - fi pp x1 - fi pp x1) (hy : fi pp y = fi pp l * (fi pp x1 - fi pp x) - fi pp y1) (lx : x < pq) (ly : y < pq) :
    farOf (addN x1 y1 x1 y1) = 0 ∧ x = xOf (addN x1 y1 x1 y1) ∧ y = yOf (addN x1 y1 x1 y1) := by
  have e : addN x1 y1 x1 y1 = .pt (fi pp x) (fi pp y) := by
    unfold addN ptN
    rw [hy, hx, hl]
    have h1 : ¬ (fi pp x1 ≠ fi pp x1) := fun h => h rfl
    have h2 : ¬ (fi pp y1 ≠ fi pp y1 ∨ fi pp y1 = 0) := fun h => h.elim (fun h => h rfl) (fi_ne (lt_pp hy1) hne)
    simp only [padd, if_neg h1, if_neg h2]
  rw [e]
  refine ⟨rfl, ?_, ?_⟩
  · rw [xOf, fi_val, Nat.mod_eq_of_lt (lt_pp lx)]
  · rw [yOf, fi_val, Nat.mod_eq_of_lt (lt_pp ly)]

/-- Neither. -/
theorem opposite_aff {x y1 y2 : Nat} (h1 : y1 < pq) (h2 : y2 < pq) (h : y1 ≠ y2 ∨ y1 = 0) : addN x y1 x y2 = .far := by
  have h3 : ¬ (fi pp x ≠ fi pp x) := fun h => h rfl
  have h4 : fi pp y1 ≠ fi pp y2 ∨ fi pp y1 = 0 := by
    rcases h with h | h
    · exact .inl fun e => h (by
        have := fi_eq.1 e
        rwa [Nat.mod_eq_of_lt (lt_pp h1), Nat.mod_eq_of_lt (lt_pp h2)] at this)
    · exact .inr (by rw [h]; rfl)
  unfold addN ptN
  simp only [padd, if_neg h3, if_pos h4]
end P224
