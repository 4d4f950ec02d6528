/- The reference's Multiple: its code in pieces, its heads. -/
import Derived.Test.YtccmmkgiamcgeaaGZ0
import Derived.Test.YtccmmkgiamcgeaaGZ2
set_option linter.all false
namespace P224
open Go Go.RowKit Go.Proofs
set_option maxRecDepth 100000
set_option linter.unusedVariables false

def sL : Code → Code | .seq a _ => a | c => c
def sR : Code → Code | .seq _ b => b | c => c
def bI : Code → Code | .block _ c => c | c => c
def lI : Code → Code | .loop c => c | c => c
noncomputable def c24 : Code := Try.f24.body.getD .skip
noncomputable def k0 : Code := sL c24
noncomputable def k1 : Code := sL (sR c24)
noncomputable def k3 : Code := sL (sR (sR c24))
noncomputable def k4 : Code := sL (sL (sR (sR (sR c24))))
noncomputable def kB : Code := sR (sL (sR (sR (sR c24))))
noncomputable def kP : Code := sR (sR (sR (sR c24)))
noncomputable def o1 : Code := sL (lI (bI kB))
noncomputable def o3 : Code := sL (sR (lI (bI kB)))
noncomputable def o4 : Code := sR (sR (lI (bI kB)))
noncomputable def o13 : Code := sR o4
noncomputable def i6 : Code := sL (bI (sL o4))
noncomputable def i7 : Code := sL (sR (bI (sL o4)))
noncomputable def kI : Code := lI (bI (sR (sR (bI (sL o4)))))
noncomputable def iA : Code := sL kI
noncomputable def iT : Code := sL (bI (sL (sR kI)))
noncomputable def iB : Code := sL (sR (bI (sL (sR kI))))
noncomputable def iM : Code := sR (sR (bI (sL (sR kI))))
noncomputable def iE : Code := sR (sR kI)
noncomputable def kO : Code := lI (bI kB)
theorem shapeI : kI = .seq iA (.seq (.block 3 (.seq iT (.seq iB iM))) iE) := by kernel_rfl
theorem shape24 : c24 = .seq k0 (.seq k1 (.seq k3 (.seq (.seq k4 (.block 0 (.loop (.seq o1 (.seq o3 (.seq (.block 1 (.seq i6 (.seq i7 (.block 2 (.loop kI))))) o13)))))) kP))) := by kernel_rfl

/-- At the head: where the three numbers of the scaled point lie. -/
structure Hd where
  rx : Nat
  ry : Nat
  rz : Nat
  cz : Nat
  rows : List (Nat × List A0)
  X : Wd
  Y : Wd
  Z : Wd
def litR (n : Int) : List A0 := .lit (.int .i64 n) :: List.replicate 6 (.lit (.int .i64 0))
def hA : Hd := ⟨8, 9, 10, 14, [(8, l32s 2), (9, l32s 3), (10, l32s 4)], .v 2, .v 3, .v 4⟩
def hB : Hd := ⟨1, 2, 8, 7, [(8, litR 1)], .v 0, .v 1, .c 1⟩
def hC : Hd := ⟨8, 9, 10, 7, [(8, litR 1), (9, litR 1), (10, litR 0)], .c 1, .c 1, .c 0⟩
inductive IsHd : Hd → Prop where
  | a : IsHd hA
  | b : IsHd hB
  | c : IsHd hC
def curveL : List A0 := [.lit (.int .i64 224), .lit (.int .i64 28), .lit (.int .i64 7), .slc 0 0 2 2]
def memH (h : Hd) : List (Nat × List A0) :=
  (0, foldCells) :: (1, l32s 0) :: (2, l32s 1) :: (4, curveL) :: (5, [.lit (.bool false), .slc 1 0 7 7, .slc 2 0 7 7]) :: (6, [.lit (.bool false), .lit (.slice none 0 0), .lit (.slice none 0 0)]) :: (7, [.slc h.rx 0 7 7, .slc h.ry 0 7 7, .slc h.rz 0 7 h.cz]) :: h.rows
/-- The outer loop's head, in front of byte k; the inner one's, in front of bit j - 1. -/
def tmO (N k : Nat) : List (Nat × AV) := [(3, .one (.ptr 4 0)), (5, .one (.ptr 5 0)), (6, .one (.ptr 6 0)), (7, .one (.ptr 7 0)), (23, .one (.sl 3 0 N)), (24, .one (.lit (.int .i64 N))), (25, .one (.lit (.int .i64 k)))]
def tmI (N k j : Nat) : List (Nat × AV) := (9, .one (.num .u8 5)) :: (10, .one (.lit (.int .i64 ((j : Int) - 1)))) :: tmO N k
/-- And with the bit. -/
def tmJ (N k j : Nat) : List (Nat × AV) := (40, .one (.bl 6)) :: tmI N k j
/-- The renamings: three regions, three numbers. -/
def ρ3 (p q r i : Nat) : Nat := if i = 8 then p else if i = 9 then q else if i = 10 then r else i
def ν3 (p q r i : Nat) : Nat := if i = 2 then p else if i = 3 then q else if i = 4 then r else i
/-- The rows behind a round, as they come up. -/
def memR (h : Hd) (ρ ν : Nat → Nat) : List (Option (List A0)) :=
  some foldCells :: some (l32s 0) :: some (l32s 1) :: some curveL :: some [.lit (.bool false), .slc 1 0 7 7, .slc 2 0 7 7] :: some [.lit (.bool false), .lit (.slice none 0 0), .lit (.slice none 0 0)] :: some [.slc (ρ h.rx) 0 7 7, .slc (ρ h.ry) 0 7 7, .slc (ρ h.rz) 0 7 h.cz] :: h.rows.map fun e => some (e.2.map (A0.rn ρ ν))

/-! ### the numbers of a round -/
def twE (X Y Z : Wd) (b : Nat) (l : List Ex) : List Ex :=
  .fmul (.c 2) (.v (b + 16)) :: .fmul Y Z :: .op 14 [.v (b + 12), .v (b + 14)] :: .fmul (.c 8) (.v (b + 13)) :: .fmul (.v (b + 1)) (.v (b + 1)) :: .fmul (.v (b + 6)) (.v (b + 11)) :: .op 14 [.v (b + 7), .v (b + 10)] :: .op 14 [.v (b + 8), .v (b + 9)] :: .fadd (.v (b + 7)) (.v (b + 7)) ::
  .fmul (.v (b + 6)) (.v (b + 6)) :: .fmul (.c 4) (.v (b + 2)) :: .fmul (.c 3) (.v (b + 5)) :: .fmul (.v (b + 3)) (.v (b + 4)) :: .fadd X (.v b) :: .op 14 [X, .v b] :: .fmul X (.v (b + 1)) :: .fmul Y Y :: .fmul Z Z :: l
def bitE (j : Nat) : List Ex := [.feq (.v 8) (.c 1), .and (.v 7) (.c 1), .shr (j - 1) (.v 5)]
def zE : List Ex := [.feq (.v 4) (.c 0)]
def hrE : List Ex := .feq (.v 10) (.c 0) :: .op 14 [.v 12, .v 3] :: .fmul (.v 1) (.v 11) :: .fmul (.v 4) (.v 8) :: .op 14 [.v 9, .v 2] :: .fmul (.v 0) (.v 8) :: .fmul (.v 4) (.v 4) :: zE
def gE (g : Nat) (l : List Ex) : List Ex :=
  .fmul (.v 4) (.v 10) :: .op 14 [.v (g + 8), .v (g + 9)] :: .fmul (.v 3) (.v (g + 1)) :: .fmul (.v 13) (.v (g + 7)) :: .op 14 [.v (g + 2), .v (g + 6)] :: .op 14 [.v (g + 4), .v (g + 5)] :: .fadd (.v (g + 2)) (.v (g + 2)) :: .op 14 [.v (g + 3), .v (g + 1)] :: .fmul (.v 13) (.v 13) :: .fmul (.v 2) (.v g) :: .fmul (.v 10) (.v g) :: .fmul (.v 10) (.v 10) :: l
end P224
/- The reference's Multiple: the runs of a round's pieces. -/
namespace P224
open Go Go.RowKit Go.Proofs
set_option maxRecDepth 100000
set_option linter.unusedVariables false

/-- A piece of a round, from a head to a head. -/
def Piece (c : Code) (tl tl' : List (Nat × AV)) (h : Hd) (d : List (Nat × Bool)) (nx : Nat) (ex : List Ex) (h' : Hd) (m p q r x y z : Nat) : Prop :=
  peek (tabM xb1) (fixH 74 4 d) 3000 c (headSt tl (memH h) 7 11) m (tl'.map fun e => e.1) ((memH h').map fun e => ρ3 p q r e.1) = some ⟨.normal, nx, ex, tl'.map fun e => some (e.2.rn (ρ3 p q r) (ν3 x y z)), memR h' (ρ3 p q r) (ν3 x y z)⟩
theorem pT_A (N k j : Nat) : Piece iT (tmI N k j) (tmI N k j) hA [] 25 (twE (.v 2) (.v 3) (.v 4) 7 []) hA 40 28 35 39 17 22 24 := by unfold Piece; kernel_rfl
theorem pT_B (N k j : Nat) : Piece iT (tmI N k j) (tmI N k j) hB [] 25 (twE (.v 0) (.v 1) (.c 1) 7 []) hA 40 28 35 39 17 22 24 := by unfold Piece; kernel_rfl
theorem pT_C (N k j : Nat) : Piece iT (tmI N k j) (tmI N k j) hC [] 25 (twE (.c 1) (.c 1) (.c 0) 7 []) hA 40 28 35 39 17 22 24 := by unfold Piece; kernel_rfl
theorem pM_0 (N k j : Nat) : Piece iM (tmJ N k j) (tmI N k j) hA [(6, false)] 7 [] hA 11 8 9 10 2 3 4 := by unfold Piece; kernel_rfl
theorem pM_z (N k j : Nat) : Piece iM (tmJ N k j) (tmI N k j) hA [(6, true), (7, true)] 8 zE hB 19 18 12 13 2 3 4 := by unfold Piece; kernel_rfl
theorem pM_s (N k j : Nat) : Piece iM (tmJ N k j) (tmI N k j) hA [(6, true), (7, false), (14, true), (15, true)] 34 (twE (.v 2) (.v 3) (.v 4) 16 (.feq (.v 13) (.c 0) :: hrE)) hA 52 40 47 51 26 31 33 := by unfold Piece; kernel_rfl
theorem pM_g (N k j : Nat) : Piece iM (tmJ N k j) (tmI N k j) hA [(6, true), (7, false), (14, false)] 27 (gE 15 hrE) hA 35 29 33 34 21 25 26 := by unfold Piece; kernel_rfl
theorem pM_h (N k j : Nat) : Piece iM (tmJ N k j) (tmI N k j) hA [(6, true), (7, false), (14, true), (15, false)] 28 (gE 16 (.feq (.v 13) (.c 0) :: hrE)) hA 35 29 33 34 22 26 27 := by unfold Piece; kernel_rfl

/-- Pieces that change no memory: whatever it is. -/
def Plain (l : List Code) (tl tl' : List (Nat × AV)) (o : Out) (nx : Nat) (ex : List Ex) (ν : Nat → Nat) : Prop :=
  ∀ ml : List (Nat × List A0), peekP (tabM xb1) (fixH 74 4 []) 3000 l (headSt tl ml 7 11) 11 (tl'.map fun e => e.1) = some ⟨o, nx, ex, tl'.map fun e => some (e.2.rn id ν), ml⟩
theorem lt8 {j : Nat} (h : j < 8) : j = 0 ∨ j = 1 ∨ j = 2 ∨ j = 3 ∨ j = 4 ∨ j = 5 ∨ j = 6 ∨ j = 7 := by omega
theorem pA (N k : Nat) {j : Nat} (hj : j < 8) : Plain [iA] (tmI N k (j + 1)) (tmI N k (j + 1)) .normal 7 [] id := by
  intro ml
  rcases lt8 hj with rfl | rfl | rfl | rfl | rfl | rfl | rfl | rfl <;> kernel_rfl
theorem pA_out (N k : Nat) : Plain [kI] (tmI N k 0) (tmO N k) (.exit 2) 7 [] id := by
  intro ml
  kernel_rfl
def νb (i : Nat) : Nat := if i = 6 then 9 else i
theorem pB (N k : Nat) {j : Nat} (hj : j < 8) : Plain [iB] (tmI N k (j + 1)) (tmJ N k (j + 1)) .normal 10 (bitE (j + 1)) νb := by
  intro ml
  rcases lt8 hj with rfl | rfl | rfl | rfl | rfl | rfl | rfl | rfl <;> kernel_rfl
theorem pE (N k : Nat) {j : Nat} (hj : j < 8) : Plain [iE] (tmI N k (j + 1)) (tmI N k j) .normal 7 [] id := by
  intro ml
  rcases lt8 hj with rfl | rfl | rfl | rfl | rfl | rfl | rfl | rfl <;> kernel_rfl

/-! ### the outer loop's pieces -/
def νk (k i : Nat) : Nat := if i = 5 then 7 + k else i
def PlainO (N k : Nat) : Prop :=
  ∀ ml : List (Nat × List A0), peekP (tabM xb1) (fixH 74 4 []) 3000 [o1, o3, i6, i7] (headSt (tmO N k) ((3, numsFrom .u8 7 N) :: ml) (7 + N) 11) 11 ((tmI N k 8).map fun e => e.1) = some ⟨.normal, 7 + N, [], (tmI N k 8).map fun e => some (e.2.rn id (νk k)), (3, numsFrom .u8 7 N) :: ml⟩
def PlainN (N k : Nat) : Prop := Plain [o13] (tmO N k) (tmO N (k + 1)) .normal 7 [] id
theorem lt28 {i : Nat} (h : i < 28) : i = 0 ∨ i = 1 ∨ i = 2 ∨ i = 3 ∨ i = 4 ∨ i = 5 ∨ i = 6 ∨ i = 7 ∨ i = 8 ∨ i = 9 ∨ i = 10 ∨ i = 11 ∨ i = 12 ∨ i = 13 ∨ i = 14 ∨ i = 15 ∨ i = 16 ∨ i = 17 ∨ i = 18 ∨ i = 19 ∨ i = 20 ∨ i = 21 ∨ i = 22 ∨ i = 23 ∨ i = 24 ∨ i = 25 ∨ i = 26 ∨ i = 27 := by omega
theorem pO28 {k : Nat} (hk : k < 28) : PlainO 28 k := by
  intro ml
  rcases lt28 hk with rfl | rfl | rfl | rfl | rfl | rfl | rfl | rfl | rfl | rfl | rfl | rfl | rfl | rfl | rfl | rfl | rfl | rfl | rfl | rfl | rfl | rfl | rfl | rfl | rfl | rfl | rfl | rfl <;> kernel_rfl
theorem pN28 {k : Nat} (hk : k < 28) : PlainN 28 k := by
  intro ml
  rcases lt28 hk with rfl | rfl | rfl | rfl | rfl | rfl | rfl | rfl | rfl | rfl | rfl | rfl | rfl | rfl | rfl | rfl | rfl | rfl | rfl | rfl | rfl | rfl | rfl | rfl | rfl | rfl | rfl | rfl <;> kernel_rfl
theorem pO1 {k : Nat} (hk : k < 1) : PlainO 1 k := by
  intro ml
  obtain rfl : k = 0 := by omega
  kernel_rfl
theorem pN1 {k : Nat} (hk : k < 1) : PlainN 1 k := by
  intro ml
  obtain rfl : k = 0 := by omega
  kernel_rfl
theorem pX28 : Plain [kO] (tmO 28 28) (tmO 28 28) (.exit 0) 7 [] id := by
  intro ml
  kernel_rfl
theorem pX1 : Plain [kO] (tmO 1 1) (tmO 1 1) (.exit 0) 7 [] id := by
  intro ml
  kernel_rfl
end P224
