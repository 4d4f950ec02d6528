/- The reference's remainder modulo the prime: what the executor lists of it, in each of its ways. -/
import Derived.Test.YtccmmkgiamcgeaaGS1
set_option linter.all false
namespace P224
open Go Go.RowKit Go.Proofs
set_option maxRecDepth 100000
set_option linter.unusedVariables false

/-! ### the list -/
def turnW (n V : Nat) : List Wd := [.v (n + 3), .w V 1, .w V 2, .v (n + 1), .w V 4, .w V 5, .w V 6]
def rnd (n V c : Nat) : List Ex := [.op 8 (turnW n V), .op 7 (turnW n V), .op 1 (turnW n V), .add 64 (.w V 0) (.v (n + 2)), .mul 64 (.v c) (.c 18446744073709551615), .add 64 (.w V 3) (.v n), .mul 64 (.v c) (.c 1)]
def tail0 (m : Nat) (W : List Wd) : List Ex := [.fne (.v (m + 2)) (.c 0), .op 8 W, .op 7 W, .op 1 W]
def tailR (m : Nat) (W : List Wd) : Nat → List Ex
  | 0 => tail0 m W
  | 1 => .fne (.v (m + 10)) (.c 0) :: (rnd (m + 4) (m + 1) (m + 2) ++ tail0 m W)
  | _ => .fne (.v (m + 18)) (.c 0) :: (rnd (m + 12) (m + 9) (m + 10) ++ .fne (.v (m + 10)) (.c 0) :: (rnd (m + 4) (m + 1) (m + 2) ++ tail0 m W))
def tailV (m r : Nat) : Nat := m + 1 + 8 * r
def tailE (m r : Nat) : Nat := m + 4 + 8 * r
def subW (e : Nat) : List Wd := [.v (e + 2), .v (e + 3), .v (e + 4), .v (e + 5), .v (e + 6), .v (e + 7), .v (e + 8)]
def subEx (e V : Nat) : List Ex := [.op 8 (subW e), .op 7 (subW e), .op 1 (subW e), .sub 64 (.w V 6) (.c 4294967295), .sub 64 (.w V 5) (.c 4294967295), .sub 64 (.w V 4) (.c 4294967295), .sub 64 (.w V 3) (.c 4294967295), .sub 64 (.w V 2) (.c 0), .sub 64 (.w V 1) (.c 0), .sub 64 (.w V 0) (.c 1)]
def endEx (e V : Nat) : List Ex := [.feq (.v e) (.c 0), .op 4 [.v V, .c pq]]
/-- The way with r turns, b: is the prime taken away once more. -/
def wayEx (m : Nat) (W : List Wd) (r : Nat) (b : Bool) : List Ex := (bif b then subEx (tailE m r) (tailV m r) else []) ++ (endEx (tailE m r) (tailV m r) ++ tailR m W r)
def wayNx (m r : Nat) (b : Bool) : Nat := tailE m r + (bif b then 12 else 2)
def wayV (m r : Nat) (b : Bool) : Nat := bif b then tailE m r + 10 else tailV m r
def wayDec (m r : Nat) (b : Bool) : List (Nat × Bool) :=
  (m, true) :: (m + 3, r != 0) :: ((bif r == 0 then [] else [(m + 8, true), (m + 11, r != 1)]) ++ ((bif decide (2 ≤ r) then [(m + 16, true), (m + 19, false)] else []) ++
    (tailE m r + 1, b) :: (bif b then [(tailE m r + 9, true)] else [])))

/-! ### what it says -/
theorem pq_num : (pq : Int) = 26959946667150639794667015087019630673557916260026308143510066298881 := rfl

/-- One carry of seven small words. -/
theorem car_law {L : List Nat} {S : Int} (hS : sumW L = S) : opVal 7 L = (S % 2 ^ 224).toNat ∧ (-2 ^ 240 ≤ S → S ≤ 2 ^ 240 → sgn (opVal 8 L) = S / 2 ^ 224 ∧ opVal 8 L < 2 ^ 64) := by
  refine ⟨by rw [← hS]; rfl, fun h1 h2 => ?_⟩
  have e : opVal 8 L = ((S / 2 ^ 224) % 2 ^ 64).toNat := by rw [← hS]; rfl
  rw [e]
  generalize hq : S / 2 ^ 224 = q
  have b1 : -65536 ≤ q ∧ q ≤ 65536 := by omega
  refine ⟨?_, by omega⟩
  unfold sgn
  split <;> omega

theorem sum_D {V : Nat} (hV : V < 2 ^ 224) : (D V 0 : Int) + 4294967296 * (D V 1 + 4294967296 * (D V 2 + 4294967296 * (D V 3 + 4294967296 * (D V 4 + 4294967296 * (D V 5 + 4294967296 * D V 6))))) = V := by
  have p : ∀ k, V / 2 ^ (32 * k) = D V k + 4294967296 * (V / 2 ^ (32 * (k + 1))) := fun k => by
    rw [div32]
    unfold D
    have := Nat.div_add_mod (V / 2 ^ (32 * k)) (2 ^ 32)
    omega
  have p0 := p 0
  have p1 := p 1
  have p2 := p 2
  have p3 := p 3
  have p4 := p 4
  have p5 := p 5
  have p6 := p 6
  have z : V / 2 ^ (32 * (6 + 1)) = 0 := Nat.div_eq_of_lt hV
  rw [z] at p6
  have e0 : V / 2 ^ (32 * 0) = V := by simp
  rw [e0, p1, p2, p3, p4, p5, p6] at p0
  generalize D V 0 = d0 at *
  generalize D V 1 = d1 at *
  generalize D V 2 = d2 at *
  generalize D V 3 = d3 at *
  generalize D V 4 = d4 at *
  generalize D V 5 = d5 at *
  generalize D V 6 = d6 at *
  clear p p1 p2 p3 p4 p5 p6 z e0
  omega

theorem small_of {u : Nat} (hu : u < 2 ^ 64) (h : smallI (sgn u)) (h2 : sgn u < 72057594037927936) : (decide (u < 2 ^ 56) || decide (2 ^ 64 - 2 ^ 56 ≤ u)) = true := by
  rw [Bool.or_eq_true, decide_eq_true_eq, decide_eq_true_eq]
  unfold smallI sgn at h
  unfold sgn at h2
  split at h <;> omega
theorem sgn_D (V k : Nat) : sgn (D V k) = D V k := by
  have := D_lt V k
  exact sgn_nat (by omega)

/-- A turn: the carry is put in once more. -/
theorem rnd_law {V c C n0 n1 n2 n3 : Nat} {q : Int} (hV : V < 2 ^ 224) (hc : c < 2 ^ 64) (hq : sgn c = q) (hb : -65536 ≤ q ∧ q ≤ 65536)
    (h0 : n0 = c * 1 % 2 ^ 64) (h1 : n1 = (D V 3 + n0) % 2 ^ 64) (h2 : n2 = c * 18446744073709551615 % 2 ^ 64) (h3 : n3 = (D V 0 + n2) % 2 ^ 64) :
    sumW [n3, D V 1, D V 2, n1, D V 4, D V 5, D V 6] = V + q * (2 ^ 96 - 1) ∧ smallW [n3, D V 1, D V 2, n1, D V 4, D V 5, D V 6] = true := by
  have l0 := D_lt V 0
  have l1 := D_lt V 1
  have l2 := D_lt V 2
  have l3 := D_lt V 3
  have l4 := D_lt V 4
  have l5 := D_lt V 5
  have l6 := D_lt V 6
  have e0 : n0 = c := by rw [h0, Nat.mul_one, Nat.mod_eq_of_lt hc]
  have s2 : sgn n2 = -q ∧ n2 < 2 ^ 64 := by
    have m1 := sgn_mod c
    have m2 := sgn_mod n2
    have hn : n2 < 2 ^ 64 := by rw [h2]; exact Nat.mod_lt _ (by decide)
    have r2 := sgn_range hn
    rw [hq] at m1
    refine ⟨?_, hn⟩
    omega
  have s0 : sgn n0 = q := by rw [e0, hq]
  have a1 := sgn_add (x := D V 3) (y := n0) (by omega) (by rw [e0]; exact hc) (by rw [sgn_D, s0]; omega) (by rw [sgn_D, s0]; omega)
  have a3 := sgn_add (x := D V 0) (y := n2) (by omega) s2.2 (by rw [sgn_D, s2.1]; omega) (by rw [sgn_D, s2.1]; omega)
  rw [← h1, sgn_D, s0] at a1
  rw [← h3, sgn_D, s2.1] at a3
  have t1 : n1 < 2 ^ 64 := by rw [h1]; exact Nat.mod_lt _ (by decide)
  have t3 : n3 < 2 ^ 64 := by rw [h3]; exact Nat.mod_lt _ (by decide)
  refine ⟨?_, ?_⟩
  · have hs := sum_D hV
    show sgn n3 + 4294967296 * (sgn (D V 1) + 4294967296 * (sgn (D V 2) + 4294967296 * (sgn n1 + 4294967296 * (sgn (D V 4) + 4294967296 * (sgn (D V 5) + 4294967296 * (sgn (D V 6) + 4294967296 * 0)))))) = _
    rw [a1, a3, sgn_D, sgn_D, sgn_D, sgn_D, sgn_D]
    clear h0 h1 h2 h3 a1 a3
    omega
  · show ((decide (n3 < 2 ^ 56) || decide (2 ^ 64 - 2 ^ 56 ≤ n3)) && ((decide (D V 1 < 2 ^ 56) || _) && ((decide (D V 2 < 2 ^ 56) || _) && ((decide (n1 < 2 ^ 56) || decide (2 ^ 64 - 2 ^ 56 ≤ n1)) && ((decide (D V 4 < 2 ^ 56) || _) && ((decide (D V 5 < 2 ^ 56) || _) && ((decide (D V 6 < 2 ^ 56) || _) && true))))))) = true
    rw [small_of t3 (by rw [a3]; omega) (by rw [a3]; omega), small_of t1 (by rw [a1]; omega) (by rw [a1]; omega), decide_eq_true (show D V 1 < 2 ^ 56 by omega), decide_eq_true (show D V 2 < 2 ^ 56 by omega), decide_eq_true (show D V 4 < 2 ^ 56 by omega), decide_eq_true (show D V 5 < 2 ^ 56 by omega), decide_eq_true (show D V 6 < 2 ^ 56 by omega)]
    rfl

theorem sgn_sub {x y : Nat} (hx : x < 2 ^ 32) (hy : y < 2 ^ 32) : sgn ((x + (2 ^ 64 - y)) % 2 ^ 64) = (x : Int) - y ∧ (x + (2 ^ 64 - y)) % 2 ^ 64 < 2 ^ 64 := by
  refine ⟨?_, Nat.mod_lt _ (by decide)⟩
  unfold sgn
  split <;> omega

/-- The prime taken away. -/
theorem sub_law {V n0 n1 n2 n3 n4 n5 n6 : Nat} (hV : V < 2 ^ 224) (h0 : n0 = (D V 0 + (2 ^ 64 - 1)) % 2 ^ 64) (h1 : n1 = (D V 1 + (2 ^ 64 - 0)) % 2 ^ 64) (h2 : n2 = (D V 2 + (2 ^ 64 - 0)) % 2 ^ 64)
    (h3 : n3 = (D V 3 + (2 ^ 64 - 4294967295)) % 2 ^ 64) (h4 : n4 = (D V 4 + (2 ^ 64 - 4294967295)) % 2 ^ 64) (h5 : n5 = (D V 5 + (2 ^ 64 - 4294967295)) % 2 ^ 64) (h6 : n6 = (D V 6 + (2 ^ 64 - 4294967295)) % 2 ^ 64) :
    sumW [n0, n1, n2, n3, n4, n5, n6] = (V : Int) - pq ∧ smallW [n0, n1, n2, n3, n4, n5, n6] = true := by
  obtain ⟨a0, b0⟩ := sgn_sub (D_lt V 0) (show 1 < 2 ^ 32 by decide)
  obtain ⟨a1, b1⟩ := sgn_sub (D_lt V 1) (show 0 < 2 ^ 32 by decide)
  obtain ⟨a2, b2⟩ := sgn_sub (D_lt V 2) (show 0 < 2 ^ 32 by decide)
  obtain ⟨a3, b3⟩ := sgn_sub (D_lt V 3) (show 4294967295 < 2 ^ 32 by decide)
  obtain ⟨a4, b4⟩ := sgn_sub (D_lt V 4) (show 4294967295 < 2 ^ 32 by decide)
  obtain ⟨a5, b5⟩ := sgn_sub (D_lt V 5) (show 4294967295 < 2 ^ 32 by decide)
  obtain ⟨a6, b6⟩ := sgn_sub (D_lt V 6) (show 4294967295 < 2 ^ 32 by decide)
  rw [← h0] at a0 b0
  rw [← h1] at a1 b1
  rw [← h2] at a2 b2
  rw [← h3] at a3 b3
  rw [← h4] at a4 b4
  rw [← h5] at a5 b5
  rw [← h6] at a6 b6
  have l0 := D_lt V 0
  have l1 := D_lt V 1
  have l2 := D_lt V 2
  have l3 := D_lt V 3
  have l4 := D_lt V 4
  have l5 := D_lt V 5
  have l6 := D_lt V 6
  refine ⟨?_, ?_⟩
  · have hs := sum_D hV
    show sgn n0 + 4294967296 * (sgn n1 + 4294967296 * (sgn n2 + 4294967296 * (sgn n3 + 4294967296 * (sgn n4 + 4294967296 * (sgn n5 + 4294967296 * (sgn n6 + 4294967296 * 0)))))) = _
    rw [a0, a1, a2, a3, a4, a5, a6, pq_num]
    clear h0 h1 h2 h3 h4 h5 h6 a0 a1 a2 a3 a4 a5 a6 b0 b1 b2 b3 b4 b5 b6
    omega
  · show ((decide (n0 < 2 ^ 56) || decide (2 ^ 64 - 2 ^ 56 ≤ n0)) && ((decide (n1 < 2 ^ 56) || decide (2 ^ 64 - 2 ^ 56 ≤ n1)) && ((decide (n2 < 2 ^ 56) || decide (2 ^ 64 - 2 ^ 56 ≤ n2)) && ((decide (n3 < 2 ^ 56) || decide (2 ^ 64 - 2 ^ 56 ≤ n3)) && ((decide (n4 < 2 ^ 56) || decide (2 ^ 64 - 2 ^ 56 ≤ n4)) && ((decide (n5 < 2 ^ 56) || decide (2 ^ 64 - 2 ^ 56 ≤ n5)) && ((decide (n6 < 2 ^ 56) || decide (2 ^ 64 - 2 ^ 56 ≤ n6)) && true))))))) = true
    rw [small_of b0 (by rw [a0]; omega) (by rw [a0]; omega), small_of b1 (by rw [a1]; omega) (by rw [a1]; omega), small_of b2 (by rw [a2]; omega) (by rw [a2]; omega), small_of b3 (by rw [a3]; omega) (by rw [a3]; omega), small_of b4 (by rw [a4]; omega) (by rw [a4]; omega), small_of b5 (by rw [a5]; omega) (by rw [a5]; omega), small_of b6 (by rw [a6]; omega) (by rw [a6]; omega)]
    rfl
end P224
/- The reference's remainder modulo the prime: in one of its ways it is the remainder. -/
namespace P224
open Go Go.RowKit Go.Proofs
set_option maxRecDepth 100000
set_option linter.unusedVariables false

/-- One turn of the sum. -/
def nxt (S : Int) : Int := S % 2 ^ 224 + S / 2 ^ 224 * (2 ^ 96 - 1)

structure Car (s : Nums) (m : Nat) (S : Int) : Prop where
  ok : s m = 1
  v : (s (m + 1) : Int) = S % 2 ^ 224
  c : sgn (s (m + 2)) = S / 2 ^ 224
  lt : s (m + 2) < 2 ^ 64
theorem Car.vlt {s : Nums} {m : Nat} {S : Int} (h : Car s m S) : s (m + 1) < 2 ^ 224 := by
  have := h.v
  omega

theorem car_of {s : Nums} {m : Nat} {L : List Nat} {S : Int} (hS : sumW L = S) (hsm : smallW L = true) (h1 : -2 ^ 240 ≤ S) (h2 : S ≤ 2 ^ 240) (e0 : s m = if smallW L = true then 1 else 0) (e1 : s (m + 1) = opVal 7 L) (e2 : s (m + 2) = opVal 8 L) : Car s m S := by
  obtain ⟨a1, a2⟩ := car_law hS
  obtain ⟨a3, a4⟩ := a2 h1 h2
  refine ⟨by rw [e0, if_pos hsm], ?_, by rw [e2]; exact a3, by rw [e2]; exact a4⟩
  rw [e1, a1]
  omega

theorem rnd_holds {s : Nums} {n V c : Nat} {l : List Ex} (h : Holds s (n + 7) (rnd n V c ++ l)) :
    s (n + 6) = opVal 8 [s (n + 3), D (s V) 1, D (s V) 2, s (n + 1), D (s V) 4, D (s V) 5, D (s V) 6] ∧ s (n + 5) = opVal 7 [s (n + 3), D (s V) 1, D (s V) 2, s (n + 1), D (s V) 4, D (s V) 5, D (s V) 6] ∧
    s (n + 4) = (if smallW [s (n + 3), D (s V) 1, D (s V) 2, s (n + 1), D (s V) 4, D (s V) 5, D (s V) 6] = true then 1 else 0) ∧ s (n + 3) = (D (s V) 0 + s (n + 2)) % 2 ^ 64 ∧ s (n + 2) = s c * 18446744073709551615 % 2 ^ 64 ∧
    s (n + 1) = (D (s V) 3 + s n) % 2 ^ 64 ∧ s n = s c * 1 % 2 ^ 64 ∧ Holds s n l := h
theorem tail0_holds {s : Nums} {m : Nat} {W : List Wd} {l : List Ex} (h : Holds s (m + 4) (tail0 m W ++ l)) :
    s (m + 3) = (if s (m + 2) = 0 then 0 else 1) ∧ s (m + 2) = opVal 8 (vals s W) ∧ s (m + 1) = opVal 7 (vals s W) ∧ s m = (if smallW (vals s W) = true then 1 else 0) ∧ Holds s m l := h
theorem sub_holds {s : Nums} {e V : Nat} {l : List Ex} (h : Holds s (e + 12) (subEx e V ++ l)) :
    s (e + 11) = opVal 8 [s (e + 2), s (e + 3), s (e + 4), s (e + 5), s (e + 6), s (e + 7), s (e + 8)] ∧ s (e + 10) = opVal 7 [s (e + 2), s (e + 3), s (e + 4), s (e + 5), s (e + 6), s (e + 7), s (e + 8)] ∧
    s (e + 9) = (if smallW [s (e + 2), s (e + 3), s (e + 4), s (e + 5), s (e + 6), s (e + 7), s (e + 8)] = true then 1 else 0) ∧
    s (e + 8) = (D (s V) 6 + (2 ^ 64 - 4294967295)) % 2 ^ 64 ∧ s (e + 7) = (D (s V) 5 + (2 ^ 64 - 4294967295)) % 2 ^ 64 ∧ s (e + 6) = (D (s V) 4 + (2 ^ 64 - 4294967295)) % 2 ^ 64 ∧ s (e + 5) = (D (s V) 3 + (2 ^ 64 - 4294967295)) % 2 ^ 64 ∧
    s (e + 4) = (D (s V) 2 + (2 ^ 64 - 0)) % 2 ^ 64 ∧ s (e + 3) = (D (s V) 1 + (2 ^ 64 - 0)) % 2 ^ 64 ∧ s (e + 2) = (D (s V) 0 + (2 ^ 64 - 1)) % 2 ^ 64 ∧ Holds s (e + 2) l := h
theorem end_holds {s : Nums} {e V : Nat} {l : List Ex} (h : Holds s (e + 2) (endEx e V ++ l)) :
    s (e + 1) = (if s e = 0 then 1 else 0) ∧ s e = (if s V < pq then 1 else 0) ∧ Holds s e l := h

/-- From one carry to the next one. -/
theorem Car.turn {s : Nums} {m n : Nat} {S : Int} {l : List Ex} (h : Car s m S) (h1 : -2 ^ 235 ≤ S) (h2 : S ≤ 2 ^ 235) (hr : Holds s (n + 7) (rnd n (m + 1) (m + 2) ++ l)) : Car s (n + 4) (nxt S) := by
  obtain ⟨e6, e5, e4, e3, e2, e1, e0, _⟩ := rnd_holds hr
  obtain ⟨a1, a2⟩ := rnd_law (V := s (m + 1)) (c := s (m + 2)) (C := 0) h.vlt h.lt h.c (by omega) e0 e1 e2 e3
  refine car_of (L := [s (n + 3), D (s (m + 1)) 1, D (s (m + 1)) 2, s (n + 1), D (s (m + 1)) 4, D (s (m + 1)) 5, D (s (m + 1)) 6]) ?_ a2 ?_ ?_ e4 e5 e6
  · rw [a1, h.v]
    rfl
  · unfold nxt; omega
  · unfold nxt; omega

theorem Car.zero {s : Nums} {m : Nat} {S : Int} (h : Car s m S) : s (m + 2) = 0 ↔ S / 2 ^ 224 = 0 := by
  have h1 := h.c
  have h2 := h.lt
  constructor
  · intro e
    rw [e] at h1
    rw [← h1]; rfl
  · intro e
    rw [e] at h1
    have := sgn_mod (s (m + 2))
    rw [h1] at this
    omega

/-- The last part: the prime is taken away where it can be. -/
theorem end_law {s : Nums} {e V : Nat} {l : List Ex} {S : Int} {b : Bool} (hV : (s V : Int) = S) (hlt : s V < 2 ^ 224) (hb : b = decide (pq ≤ s V)) (hh : Holds s (e + bif b then 12 else 2) ((bif b then subEx e V else []) ++ (endEx e V ++ l))) :
    s (e + 1) = b.toNat ∧ (b = true → s (e + 9) = 1) ∧ (s (bif b then e + 10 else V) : Int) = S % pq ∧ s (bif b then e + 10 else V) < pq := by
  have p2 : (pq : Int) * 2 > 2 ^ 224 := by rw [pq_num]; decide
  cases b with
  | false =>
    simp only [cond_false] at hh ⊢
    obtain ⟨g1, g2, _⟩ := end_holds hh
    have hn : ¬ pq ≤ s V := of_decide_eq_false hb.symm
    rw [if_pos (by omega)] at g2
    rw [g2] at g1
    refine ⟨g1, (fun h => by cases h), ?_, by omega⟩
    rw [hV, Int.emod_eq_of_lt (by omega) (by omega)]
  | true =>
    simp only [cond_true] at hh ⊢
    obtain ⟨a11, a10, a9, a8, a7, a6, a5, a4, a3, a2, hh⟩ := sub_holds hh
    obtain ⟨g1, g2, _⟩ := end_holds hh
    have hn : pq ≤ s V := of_decide_eq_true hb.symm
    rw [if_neg (by omega)] at g2
    rw [g2] at g1
    obtain ⟨b1, b2⟩ := sub_law hlt a2 a3 a4 a5 a6 a7 a8
    rw [b2, if_pos rfl] at a9
    have b3 := (car_law b1).1
    rw [← a10] at b3
    have hp : (0 : Int) < pq := by rw [pq_num]; decide
    have : (s (e + 10) : Int) = S - pq := by
      rw [b3, ← hV]
      have : ((s V : Int) - pq) % 2 ^ 224 = s V - pq := Int.emod_eq_of_lt (by omega) (by omega)
      rw [this]
      omega
    refine ⟨g1, fun _ => a9, ?_, by omega⟩
    rw [this, ← Int.sub_emod_right, Int.emod_eq_of_lt (by omega) (by omega)]

theorem nxt_mod (S : Int) : nxt S % pq = S % pq := by
  have : nxt S = S - pq * (S / 2 ^ 224) := by
    unfold nxt
    rw [pq_num]
    omega
  rw [this, Int.sub_mul_emod_self_left]

/-- The number of turns. -/
def turnsOf (S : Int) : Nat := if S / 2 ^ 224 = 0 then 0 else if nxt S / 2 ^ 224 = 0 then 1 else 2
def restOf (S : Int) : Int := if S / 2 ^ 224 = 0 then S else if nxt S / 2 ^ 224 = 0 then nxt S else nxt (nxt S)
def takenOf (S : Int) : Bool := decide ((pq : Int) ≤ restOf S)
theorem turns_lt (S : Int) : turnsOf S < 3 := by
  unfold turnsOf
  split
  · omega
  · split <;> omega

/-- In its way the list ends with the remainder, and what was decided is so. -/
theorem way_law {S : Int} (h1 : -2 ^ 230 ≤ S) (h2 : S ≤ 2 ^ 230) {s : Nums} {m : Nat} {W : List Wd} {l : List Ex} (hW : sumW (vals s W) = S) (hsm : smallW (vals s W) = true)
    (hh : Holds s (wayNx m (turnsOf S) (takenOf S)) (wayEx m W (turnsOf S) (takenOf S) ++ l)) :
    (∀ p ∈ wayDec m (turnsOf S) (takenOf S), s p.1 = p.2.toNat) ∧ (s (wayV m (turnsOf S) (takenOf S)) : Int) = S % pq ∧ s (wayV m (turnsOf S) (takenOf S)) < pq := by
  by_cases c0 : S / 2 ^ 224 = 0
  · -- no turn
    have ht : turnsOf S = 0 := if_pos c0
    have hr : restOf S = S := if_pos c0
    rw [ht] at hh ⊢
    have hh' : Holds s ((m + 4) + bif takenOf S then 12 else 2) ((bif takenOf S then subEx (m + 4) (m + 1) else []) ++ (endEx (m + 4) (m + 1) ++ (tail0 m W ++ l))) := by
      have : wayEx m W 0 (takenOf S) ++ l = (bif takenOf S then subEx (m + 4) (m + 1) else []) ++ (endEx (m + 4) (m + 1) ++ (tail0 m W ++ l)) := by
        unfold wayEx
        simp only [List.append_assoc]
        rfl
      rw [this] at hh
      exact hh
    have t0 : Holds s (m + 4) (tail0 m W ++ l) := by
      have := hh'
      cases hb : takenOf S with
      | true => rw [hb] at this; simp only [cond_true] at this; exact (end_holds (sub_holds this).2.2.2.2.2.2.2.2.2.2).2.2
      | false => rw [hb] at this; simp only [cond_false] at this; exact (end_holds this).2.2
    obtain ⟨e3, e2, e1, e0, _⟩ := tail0_holds t0
    have C0 := car_of hW hsm (by omega) (by omega) e0 e1 e2
    have hV : (s (m + 1) : Int) = S := by rw [C0.v]; omega
    have hb : takenOf S = decide (pq ≤ s (m + 1)) := by
      unfold takenOf
      rw [hr, ← hV]
      simp
    obtain ⟨g1, g2, g3, g4⟩ := end_law hV C0.vlt hb hh'
    have z := C0.zero.2 c0
    rw [if_pos z] at e3
    refine ⟨fun p hp => ?_, ?_, ?_⟩
    · unfold wayDec at hp
      simp only [beq_self_eq_true, cond_true, List.nil_append, List.mem_cons, bne_self_eq_false] at hp
      rcases hp with rfl | rfl | hp
      · exact C0.ok
      · exact e3
      · rw [show decide (2 ≤ 0) = false from rfl] at hp
        simp only [cond_false, List.nil_append, List.mem_cons] at hp
        rcases hp with rfl | hp
        · exact g1
        · cases hb' : takenOf S with
          | true =>
            rw [hb'] at hp
            simp only [cond_true, List.mem_cons, List.not_mem_nil, or_false] at hp
            subst hp
            exact g2 hb'
          | false => rw [hb'] at hp; simp at hp
    · exact g3
    · exact g4
  · by_cases c1 : nxt S / 2 ^ 224 = 0
    · -- one turn
      have ht : turnsOf S = 1 := by unfold turnsOf; rw [if_neg c0, if_pos c1]
      have hr : restOf S = nxt S := by unfold restOf; rw [if_neg c0, if_pos c1]
      rw [ht] at hh ⊢
      have hh' : Holds s ((m + 12) + bif takenOf S then 12 else 2) ((bif takenOf S then subEx (m + 12) (m + 9) else []) ++ (endEx (m + 12) (m + 9) ++ (.fne (.v (m + 10)) (.c 0) :: (rnd (m + 4) (m + 1) (m + 2) ++ (tail0 m W ++ l))))) := by
        have : wayEx m W 1 (takenOf S) ++ l = (bif takenOf S then subEx (m + 12) (m + 9) else []) ++ (endEx (m + 12) (m + 9) ++ (.fne (.v (m + 10)) (.c 0) :: (rnd (m + 4) (m + 1) (m + 2) ++ (tail0 m W ++ l)))) := by
          unfold wayEx tailR
          simp only [List.append_assoc, List.cons_append]
          rfl
        rw [this] at hh
        exact hh
      have tt : Holds s (m + 12) (.fne (.v (m + 10)) (.c 0) :: (rnd (m + 4) (m + 1) (m + 2) ++ (tail0 m W ++ l))) := by
        have := hh'
        cases hb : takenOf S with
        | true => rw [hb] at this; simp only [cond_true] at this; exact (end_holds (sub_holds this).2.2.2.2.2.2.2.2.2.2).2.2
        | false => rw [hb] at this; simp only [cond_false] at this; exact (end_holds this).2.2
      have e11 : s (m + 11) = if s (m + 10) = 0 then 0 else 1 := tt.1
      have t1 : Holds s ((m + 4) + 7) (rnd (m + 4) (m + 1) (m + 2) ++ (tail0 m W ++ l)) := tt.2
      have t0 : Holds s (m + 4) (tail0 m W ++ l) := (rnd_holds t1).2.2.2.2.2.2.2
      obtain ⟨e3, e2, e1, e0, _⟩ := tail0_holds t0
      have C0 := car_of hW hsm (by omega) (by omega) e0 e1 e2
      have C1 := C0.turn (by omega) (by omega) t1
      have z0 : s (m + 2) ≠ 0 := fun z => c0 (C0.zero.1 z)
      rw [if_neg z0] at e3
      have z1 : s (m + 10) = 0 := C1.zero.2 c1
      rw [if_pos z1] at e11
      have hV : (s (m + 9) : Int) = nxt S := by have := C1.v; rw [show m + 4 + 4 + 1 = m + 9 by omega] at this; omega
      have hlt : s (m + 9) < 2 ^ 224 := C1.vlt
      have hb : takenOf S = decide (pq ≤ s (m + 9)) := by
        unfold takenOf
        rw [hr, ← hV]
        simp
      obtain ⟨g1, g2, g3, g4⟩ := end_law hV hlt hb hh'
      rw [nxt_mod] at g3
      refine ⟨fun p hp => ?_, ?_, ?_⟩
      · have hp' : p ∈ [(m, true), (m + 3, true), (m + 8, true), (m + 11, false)] ++ ((m + 13, takenOf S) :: (bif takenOf S then [(m + 21, true)] else [])) := hp
        simp only [List.cons_append, List.nil_append, List.mem_cons] at hp'
        rcases hp' with rfl | rfl | rfl | rfl | rfl | hp'
        · exact C0.ok
        · exact e3
        · exact C1.ok
        · exact e11
        · exact g1
        · cases hb' : takenOf S with
          | true =>
            rw [hb'] at hp'
            simp only [cond_true, List.mem_cons, List.not_mem_nil, or_false] at hp'
            subst hp'
            exact g2 hb'
          | false => rw [hb'] at hp'; simp at hp'
      · exact g3
      · exact g4
    · -- two turns
      have ht : turnsOf S = 2 := by unfold turnsOf; rw [if_neg c0, if_neg c1]
      have hr : restOf S = nxt (nxt S) := by unfold restOf; rw [if_neg c0, if_neg c1]
      rw [ht] at hh ⊢
      have hh' : Holds s ((m + 20) + bif takenOf S then 12 else 2) ((bif takenOf S then subEx (m + 20) (m + 17) else []) ++ (endEx (m + 20) (m + 17) ++ (.fne (.v (m + 18)) (.c 0) :: (rnd (m + 12) (m + 9) (m + 10) ++ (.fne (.v (m + 10)) (.c 0) :: (rnd (m + 4) (m + 1) (m + 2) ++ (tail0 m W ++ l))))))) := by
        have : wayEx m W 2 (takenOf S) ++ l = (bif takenOf S then subEx (m + 20) (m + 17) else []) ++ (endEx (m + 20) (m + 17) ++ (.fne (.v (m + 18)) (.c 0) :: (rnd (m + 12) (m + 9) (m + 10) ++ (.fne (.v (m + 10)) (.c 0) :: (rnd (m + 4) (m + 1) (m + 2) ++ (tail0 m W ++ l)))))) := by
          unfold wayEx tailR
          simp only [List.append_assoc, List.cons_append]
          rfl
        rw [this] at hh
        exact hh
      have tt : Holds s (m + 20) (.fne (.v (m + 18)) (.c 0) :: (rnd (m + 12) (m + 9) (m + 10) ++ (.fne (.v (m + 10)) (.c 0) :: (rnd (m + 4) (m + 1) (m + 2) ++ (tail0 m W ++ l))))) := by
        have := hh'
        cases hb : takenOf S with
        | true => rw [hb] at this; simp only [cond_true] at this; exact (end_holds (sub_holds this).2.2.2.2.2.2.2.2.2.2).2.2
        | false => rw [hb] at this; simp only [cond_false] at this; exact (end_holds this).2.2
      have e19 : s (m + 19) = if s (m + 18) = 0 then 0 else 1 := tt.1
      have t2 : Holds s ((m + 12) + 7) (rnd (m + 12) (m + 9) (m + 10) ++ (.fne (.v (m + 10)) (.c 0) :: (rnd (m + 4) (m + 1) (m + 2) ++ (tail0 m W ++ l)))) := tt.2
      have tt := (rnd_holds t2).2.2.2.2.2.2.2
      have e11 : s (m + 11) = if s (m + 10) = 0 then 0 else 1 := tt.1
      have t1 : Holds s ((m + 4) + 7) (rnd (m + 4) (m + 1) (m + 2) ++ (tail0 m W ++ l)) := tt.2
      have t0 : Holds s (m + 4) (tail0 m W ++ l) := (rnd_holds t1).2.2.2.2.2.2.2
      obtain ⟨e3, e2, e1, e0, _⟩ := tail0_holds t0
      have C0 := car_of hW hsm (by omega) (by omega) e0 e1 e2
      have C1 := C0.turn (by omega) (by omega) t1
      have z0 : s (m + 2) ≠ 0 := fun z => c0 (C0.zero.1 z)
      rw [if_neg z0] at e3
      have z1 : s (m + 10) ≠ 0 := fun z => c1 (C1.zero.1 z)
      rw [if_neg z1] at e11
      have C2 : Car s (m + 12 + 4) (nxt (nxt S)) := Car.turn (m := m + 8) C1 (by unfold nxt; omega) (by unfold nxt; omega) t2
      have c2 : nxt (nxt S) / 2 ^ 224 = 0 := by
        have q1 : nxt S / 2 ^ 224 = 1 ∨ nxt S / 2 ^ 224 = -1 := by unfold nxt at c1 ⊢; omega
        have b1 : -2 ^ 110 ≤ nxt S ∧ nxt S < 2 ^ 224 + 2 ^ 110 := by unfold nxt; omega
        generalize nxt S = X at q1 b1 ⊢
        unfold nxt
        rcases q1 with q1 | q1 <;> rw [q1] <;> omega
      have z2 : s (m + 18) = 0 := C2.zero.2 c2
      rw [if_pos z2] at e19
      have hV : (s (m + 17) : Int) = nxt (nxt S) := by have := C2.v; rw [show m + 12 + 4 + 1 = m + 17 by omega] at this; omega
      have hlt : s (m + 17) < 2 ^ 224 := C2.vlt
      have hb : takenOf S = decide (pq ≤ s (m + 17)) := by
        unfold takenOf
        rw [hr, ← hV]
        simp
      obtain ⟨g1, g2, g3, g4⟩ := end_law hV hlt hb hh'
      rw [nxt_mod, nxt_mod] at g3
      refine ⟨fun p hp => ?_, ?_, ?_⟩
      · have hp' : p ∈ [(m, true), (m + 3, true), (m + 8, true), (m + 11, true)] ++ ((m + 16, true) :: (m + 19, false) :: (m + 21, takenOf S) :: (bif takenOf S then [(m + 29, true)] else [])) := hp
        simp only [List.cons_append, List.nil_append, List.mem_cons] at hp'
        rcases hp' with rfl | rfl | rfl | rfl | rfl | rfl | rfl | hp'
        · exact C0.ok
        · exact e3
        · exact C1.ok
        · exact e11
        · exact C2.ok
        · exact e19
        · exact g1
        · cases hb' : takenOf S with
          | true =>
            rw [hb'] at hp'
            simp only [cond_true, List.mem_cons, List.not_mem_nil, or_false] at hp'
            subst hp'
            exact g2 hb'
          | false => rw [hb'] at hp'; simp at hp'
      · exact g3
      · exact g4
end P224
/- The reference's sum and difference of elements: a call of a function that ends with the remainder, by its ways. -/
namespace P224
open Go Go.RowKit Go.Proofs
set_option maxRecDepth 100000
set_option linter.unusedVariables false

def optRowSame : Option (List A0) → Option (List A0) → Bool
  | some l, some m => sameAll l m
  | none, none => true
  | _, _ => false
def rowsSame : List (Option (List A0)) → List (Option (List A0)) → Bool
  | [], [] => true
  | x :: l, y :: m => optRowSame x y && rowsSame l m
  | _, _ => false
theorem optRowSame_eq {x y : Option (List A0)} (h : optRowSame x y = true) : x = y := by
  cases x <;> cases y <;> simp [optRowSame] at h
  · rfl
  · rw [sameAll_eq h]
theorem rowsSame_eq : ∀ {x y : List (Option (List A0))}, rowsSame x y = true → x = y
  | [], [], _ => rfl
  | x :: l, y :: m, h => by
    rw [rowsSame, Bool.and_eq_true] at h
    rw [optRowSame_eq h.1, rowsSame_eq h.2]
  | [], _ :: _, h | _ :: _, [], h => by simp [rowsSame] at h
def briefRSame : Option BriefR → BriefR → Bool
  | some b, c => b.o.same c.o && b.nx == c.nx && decide (b.exs = c.exs) && outSame b.out c.out && AV.sameL b.res c.res && rowsSame b.mem c.mem
  | none, _ => false
theorem briefRSame_eq {x : Option BriefR} {y : BriefR} (h : briefRSame x y = true) : x = some y := by
  unfold briefRSame at h
  split at h
  · rename_i b
    simp only [Bool.and_eq_true, beq_iff_eq, decide_eq_true_eq] at h
    obtain ⟨⟨⟨⟨⟨h1, h2⟩, h3⟩, h4⟩, h5⟩, h6⟩ := h
    obtain ⟨a1, a2, a3, a4, a5, a6⟩ := b
    obtain ⟨b1, b2, b3, b4, b5, b6⟩ := y
    simp only at h1 h2 h3 h4 h5 h6
    rw [Out.same_eq h1, h2, h3, outSame_eq h4, AV.sameL_eq h5, rowsSame_eq h6]
  · cases h

/-! ### the curve -/
def curveV (bf of : Nat) : Value := .agg #[.int .i64 224, .int .i64 28, .int .i64 7, .slice (some ⟨bf, of, none⟩) 2 2]
def FoldsAt (w : World) (bf of : Nat) : Prop := w.cell? ⟨bf, of, none⟩ = some (.int .i64 3) ∧ w.cell? ⟨bf, of + 1, none⟩ = some (.int .i64 1) ∧ w.cell? ⟨bf, of + 2, none⟩ = some (.int .i64 0) ∧ w.cell? ⟨bf, of + 3, none⟩ = some (.int .i64 (-1))
def curveAV (r : Nat) : AV := .agg [.lit (.int .i64 224), .lit (.int .i64 28), .lit (.int .i64 7), .slc r 0 2 2]
def foldCells : List A0 := [.lit (.int .i64 3), .lit (.int .i64 1), .lit (.int .i64 0), .lit (.int .i64 (-1))]
theorem curve_rep {s : Nums} {β : Places} {n r bf of : Nat} (hβ : β r = (bf, of)) (hn : r < n) : (curveAV r).rep s β n (curveV bf of) := by
  refine ⟨[.int .i64 224, .int .i64 28, .int .i64 7, .slice (some ⟨bf, of, none⟩) 2 2], rfl, rfl, fun j a x ha hx => ?_⟩
  match j, ha, hx with
  | 0, ha, hx => cases ha; cases hx; exact rfl
  | 1, ha, hx => cases ha; cases hx; exact rfl
  | 2, ha, hx => cases ha; cases hx; exact rfl
  | 3, ha, hx => cases ha; cases hx; exact ⟨by rw [at_, hβ]; rfl, hn⟩
theorem fold_row {s : Nums} {β : Places} {n r bf of : Nat} {w : World} (hβ : β r = (bf, of)) (h : FoldsAt w bf of) : RowOk s β n r w 0 foldCells := by
  obtain ⟨h1, h2, h3, h4⟩ := h
  exact ⟨⟨_, by rw [at_, hβ]; exact h1, rfl⟩, ⟨_, by rw [at_, hβ]; exact h2, rfl⟩, ⟨_, by rw [at_, hβ]; exact h3, rfl⟩, ⟨_, by rw [at_, hβ]; exact h4, rfl⟩, trivial⟩
theorem FoldsAt.lt {w : World} {bf of : Nat} (h : FoldsAt w bf of) : bf < w.heap.size := World.block_lt_of_cell? w _ h.1

noncomputable def xs84 : List (Nat × X) := (82, x82) :: (64, x64) :: with1 (with1 [] [] 2000 101 Try.f101) [] 2000 65 Try.f65
noncomputable def xs71 : List (Nat × X) := with1 xs84 [] 3000 84 Try.f84
theorem xs84_ok : XsOk xs84 := xcons_ok x82_ok (xcons_ok x64_ok (with1_ok noPrims_ok (with1_ok noPrims_ok xnil_ok Try.func101 (by kernel_rfl)) Try.func65 (by kernel_rfl)))
theorem xs71_ok : XsOk xs71 := with1_ok noPrims_ok xs84_ok Try.func84 (by kernel_rfl)
theorem tab71_ok : (tabX true [] xs71).Ok Try.prog := tabX_ok noPrims_ok xs71_ok

def st71 : St := startSt [curveAV 0, .one (.sl 1 0 7), .one (.sl 2 0 7)] [(0, foldCells), (1, l32s 0), (2, l32s 1)] 2 3
/-- What is expected of the way with r turns. -/
def wayB (m : Nat) (W : List Wd) (head : List Ex) (R c : Nat) (rest : List A0) (r : Nat) (b : Bool) : BriefR := ⟨.ret, wayNx m r b, wayEx m W r b ++ head, [], [.one (.slc R 0 7 c)], [some (l32s (wayV m r b) ++ rest)]⟩
noncomputable def wayOk (fn : Func) (nt m : Nat) (W : List Wd) (head : List Ex) (R c : Nat) (rest : List A0) (r : Nat) (b : Bool) : Bool :=
  briefRSame (briefR (tabX true [] xs71) fn [R] (runF (tabX true [] xs71) (fixD nt 3 [] [] (wayDec m r b)) 3000 fn st71)) (wayB m W head R c rest r b) && (wayB m W head R c rest r b).fit 2
noncomputable def waysOk (fn : Func) (nt m : Nat) (W : List Wd) (head : List Ex) (R c : Nat) (rest : List A0) : Bool :=
  (List.range 3).all fun r => wayOk fn nt m W head R c rest r true && wayOk fn nt m W head R c rest r false

theorem findT_all {d : List (Nat × Bool)} {s : Nums} (h : ∀ p ∈ d, s p.1 = p.2.toNat) {nt n : Nat} {l : List Nat} {sp : List (Nat × Nat)} : Dec (fixD nt n l sp d) s := by
  intro i b hb
  exact h (i, b) (findT_mem hb)

/-- What a function of two elements hands back: a new row of seven words. -/
def NewEl (w : World) (c R : Nat) (v : Value) (w' : World) : Prop :=
  ∃ b, w.heap.size ≤ b ∧ b < w'.heap.size ∧ v = .slice (some ⟨b, 0, none⟩) 7 c ∧ El w' b 0 R ∧ (∀ k, k < 7 → w'.frozen? ⟨b, k, none⟩ = false) ∧ Below w.heap.size w w'

theorem meets_ways {g : FuncId} {fn : Func} {nt m R c : Nat} {W : List Wd} {head : List Ex} {rest : List A0} (hok : waysOk fn nt m W head R c rest = true) (hnt : fn.ntmps = nt) (h3 : 3 ≤ nt) (hf : Try.prog.funcs[g]? = some fn)
    (hbody : fn.body.isNone = false) (hname : (fn.name == "runtime.NumGoroutine") = false) (hR : 3 ≤ R)
    (w : World) (bf of b1 o1 c1 b2 o2 c2 x y : Nat) (hc1 : 7 ≤ c1) (hc2 : 7 ≤ c2) (hfo : FoldsAt w bf of) (hx : El w b1 o1 x) (hy : El w b2 o2 y) {S : Int} (hS1 : -2 ^ 230 ≤ S) (hS2 : S ≤ 2 ^ 230)
    (law : ∀ s : Nums, s 0 = x → s 1 = y → Holds s m head → sumW (vals s W) = S ∧ smallW (vals s W) = true) :
    Meets Try.prog g #[curveV bf of, .slice (some ⟨b1, o1, none⟩) 7 c1, .slice (some ⟨b2, o2, none⟩) 7 c2] w (NewEl w c (S % pq).toNat) := by
  refine meets_of_calls hf hbody hname ?_
  have h := all_range hok (turns_lt S)
  have hw : wayOk fn nt m W head R c rest (turnsOf S) (takenOf S) = true := by
    rw [Bool.and_eq_true] at h
    cases takenOf S with
    | true => exact h.1
    | false => exact h.2
  rw [wayOk, Bool.and_eq_true] at hw
  obtain ⟨hb, hfit⟩ := hw
  have hb := briefRSame_eq hb
  simp only [BriefR.fit, Bool.and_eq_true, decide_eq_true_eq, beq_iff_eq] at hfit
  obtain ⟨⟨⟨g1, g2⟩, g3⟩, g4⟩ := hfit
  let β : Places := fun r => if r = 0 then (bf, of) else if r = 1 then (b1, o1) else (b2, o2)
  let s0 : Nums := fun i => if i = 0 then x else y
  have way : ∀ s : Nums, (∀ i, i < 2 → s i = s0 i) → Holds s (wayNx m (turnsOf S) (takenOf S)) (wayEx m W (turnsOf S) (takenOf S) ++ head) →
      (∀ p ∈ wayDec m (turnsOf S) (takenOf S), s p.1 = p.2.toNat) ∧ (s (wayV m (turnsOf S) (takenOf S)) : Int) = S % pq ∧ s (wayV m (turnsOf S) (takenOf S)) < pq := by
    intro s hs hH
    have hhead : Holds s m head := by
      have e : wayNx m (turnsOf S) (takenOf S) = m + (wayEx m W (turnsOf S) (takenOf S)).length := by
        have ht := turns_lt S
        have : turnsOf S = 0 ∨ turnsOf S = 1 ∨ turnsOf S = 2 := by omega
        rcases this with e | e | e <;> rw [e] <;> cases takenOf S <;> rfl
      rw [e] at hH
      exact Holds.drop _ _ _ hH
    obtain ⟨l1, l2⟩ := law s (hs 0 (by decide)) (hs 1 (by decide)) hhead
    exact way_law hS1 hS2 l1 l2 hH
  refine calls_briefR (F := fixD nt 3 [] [] (wayDec m (turnsOf S) (takenOf S))) tab71_ok hb hf hnt g1 g2 g3 g4 (show 3 ≤ nt from h3) (show 3 < 4095 by decide) s0 β
    (vals := [curveV bf of, .slice (some ⟨b1, o1, none⟩) 7 c1, .slice (some ⟨b2, o2, none⟩) 7 c2]) (fun s hs => ⟨curve_rep rfl (show 0 < 3 by decide), ⟨c1, hc1, rfl, show 1 < 3 by decide⟩, ⟨c2, hc2, rfl, show 2 < 3 by decide⟩, trivial⟩)
    ?_ ?_ ?_ (fun r q _ _ h => by cases h) (fun s hs hH => findT_all (way s hs hH).1) ?_
  · intro s hs
    exact ⟨show 0 < 3 by decide, fold_row rfl hfo, show 1 < 3 by decide, l32_row rfl hx (hs 0 (by decide)), show 2 < 3 by decide, l32_row rfl hy (hs 1 (by decide)), trivial⟩
  · intro r l hl hr
    cases hr
  · intro r _
    show (if r = 0 then (bf, of) else if r = 1 then (b1, o1) else (b2, o2)).1 < _
    split
    · exact hfo.lt
    · split
      · exact hx.lt
      · exact hy.lt
  · intro s hs hH st' β' a' w' v hv hm hag hr hbe
    obtain ⟨_, w2, w3⟩ := way s hs hH
    have hl : lookup R st'.mem = some (l32s (wayV m (turnsOf S) (takenOf S)) ++ rest) := by
      have : [lookup R st'.mem] = [some (l32s (wayV m (turnsOf S) (takenOf S)) ++ rest)] := hm
      simpa using this
    obtain ⟨hrn, hc⟩ := hr.mem R _ hl
    obtain ⟨f1, f2, f3⟩ := hr.fresh R hR hrn
    have hv' : v = .slice (some (at_ β' R 0)) 7 c := hv.1
    have hget : ∀ k, k < 7 → (l32s (wayV m (turnsOf S) (takenOf S)) ++ rest)[k]? = some (.l32 (wayV m (turnsOf S) (takenOf S)) k) := fun k hk => by
      rw [List.getElem?_append_left (by simp [l32s]; exact hk), l32s, List.getElem?_map, List.getElem?_range hk]
      rfl
    refine ⟨v, rfl, (β' R).1, f1, f2, ?_, ⟨fun k hk => ?_, ?_⟩, fun k hk => ?_, hbe⟩
    · rw [hv', at_, f3]
    · obtain ⟨u, u1, u2⟩ := hc k _ (hget k hk)
      rw [u2.1, at_, f3] at u1
      rw [← w2, Int.toNat_natCast]
      exact u1
    · rw [← w2, Int.toNat_natCast]
      exact Nat.lt_trans w3 pq_lt224
    · have := hr.frz R _ hl (.inl hR) k (by rw [List.length_append]; simp [l32s]; omega)
      rw [at_, f3, Nat.zero_add] at this
      exact this

/-! ### the sum and the difference -/
def W7 : List Wd := [.v 2, .v 3, .v 4, .v 5, .v 6, .v 7, .v 8]
def head71 : List Ex := [.add 64 (.w 0 6) (.w 1 6), .add 64 (.w 0 5) (.w 1 5), .add 64 (.w 0 4) (.w 1 4), .add 64 (.w 0 3) (.w 1 3), .add 64 (.w 0 2) (.w 1 2), .add 64 (.w 0 1) (.w 1 1), .add 64 (.w 0 0) (.w 1 0)]
def head70 : List Ex := [.sub 64 (.w 0 6) (.w 1 6), .sub 64 (.w 0 5) (.w 1 5), .sub 64 (.w 0 4) (.w 1 4), .sub 64 (.w 0 3) (.w 1 3), .sub 64 (.w 0 2) (.w 1 2), .sub 64 (.w 0 1) (.w 1 1), .sub 64 (.w 0 0) (.w 1 0)]
theorem ways71 : waysOk Try.f71 33 9 W7 head71 4 7 [] = true := by kernel_rfl
theorem ways70 : waysOk Try.f70 33 9 W7 head70 4 7 [] = true := by kernel_rfl

theorem smallW7 {a b c d e f g : Nat} (h : a < 2 ^ 64 ∧ b < 2 ^ 64 ∧ c < 2 ^ 64 ∧ d < 2 ^ 64 ∧ e < 2 ^ 64 ∧ f < 2 ^ 64 ∧ g < 2 ^ 64)
    (s : (-1099511627776 ≤ sgn a ∧ sgn a ≤ 1099511627776) ∧ (-1099511627776 ≤ sgn b ∧ sgn b ≤ 1099511627776) ∧ (-1099511627776 ≤ sgn c ∧ sgn c ≤ 1099511627776) ∧ (-1099511627776 ≤ sgn d ∧ sgn d ≤ 1099511627776) ∧
      (-1099511627776 ≤ sgn e ∧ sgn e ≤ 1099511627776) ∧ (-1099511627776 ≤ sgn f ∧ sgn f ≤ 1099511627776) ∧ (-1099511627776 ≤ sgn g ∧ sgn g ≤ 1099511627776)) : smallW [a, b, c, d, e, f, g] = true := by
  obtain ⟨h1, h2, h3, h4, h5, h6, h7⟩ := h
  obtain ⟨s1, s2, s3, s4, s5, s6, s7⟩ := s
  show ((decide (a < 2 ^ 56) || decide (2 ^ 64 - 2 ^ 56 ≤ a)) && ((decide (b < 2 ^ 56) || decide (2 ^ 64 - 2 ^ 56 ≤ b)) && ((decide (c < 2 ^ 56) || decide (2 ^ 64 - 2 ^ 56 ≤ c)) && ((decide (d < 2 ^ 56) || decide (2 ^ 64 - 2 ^ 56 ≤ d)) && ((decide (e < 2 ^ 56) || decide (2 ^ 64 - 2 ^ 56 ≤ e)) && ((decide (f < 2 ^ 56) || decide (2 ^ 64 - 2 ^ 56 ≤ f)) && ((decide (g < 2 ^ 56) || decide (2 ^ 64 - 2 ^ 56 ≤ g)) && true))))))) = true
  rw [small_of h1 (by unfold smallI; omega) (by omega), small_of h2 (by unfold smallI; omega) (by omega), small_of h3 (by unfold smallI; omega) (by omega), small_of h4 (by unfold smallI; omega) (by omega), small_of h5 (by unfold smallI; omega) (by omega), small_of h6 (by unfold smallI; omega) (by omega), small_of h7 (by unfold smallI; omega) (by omega)]
  rfl

theorem sgn_addD (x y k : Nat) : sgn ((D x k + D y k) % 2 ^ 64) = (D x k : Int) + D y k ∧ (D x k + D y k) % 2 ^ 64 < 2 ^ 64 := by
  have h1 := D_lt x k
  have h2 := D_lt y k
  refine ⟨?_, Nat.mod_lt _ (by decide)⟩
  rw [Nat.mod_eq_of_lt (by omega), sgn_nat (by omega)]
  push_cast
  rfl

theorem law71 {s : Nums} {x y : Nat} (hx : x < 2 ^ 224) (hy : y < 2 ^ 224) (h0 : s 0 = x) (h1 : s 1 = y) (h : Holds s 9 head71) : sumW (vals s W7) = (x : Int) + y ∧ smallW (vals s W7) = true := by
  obtain ⟨e8, e7, e6, e5, e4, e3, e2, _⟩ := h
  have f2 : s 2 = (D (s 0) 0 + D (s 1) 0) % 2 ^ 64 := e2
  have f3 : s 3 = (D (s 0) 1 + D (s 1) 1) % 2 ^ 64 := e3
  have f4 : s 4 = (D (s 0) 2 + D (s 1) 2) % 2 ^ 64 := e4
  have f5 : s 5 = (D (s 0) 3 + D (s 1) 3) % 2 ^ 64 := e5
  have f6 : s 6 = (D (s 0) 4 + D (s 1) 4) % 2 ^ 64 := e6
  have f7 : s 7 = (D (s 0) 5 + D (s 1) 5) % 2 ^ 64 := e7
  have f8 : s 8 = (D (s 0) 6 + D (s 1) 6) % 2 ^ 64 := e8
  rw [h0, h1] at f2 f3 f4 f5 f6 f7 f8
  obtain ⟨a0, b0⟩ := sgn_addD x y 0
  obtain ⟨a1, b1⟩ := sgn_addD x y 1
  obtain ⟨a2, b2⟩ := sgn_addD x y 2
  obtain ⟨a3, b3⟩ := sgn_addD x y 3
  obtain ⟨a4, b4⟩ := sgn_addD x y 4
  obtain ⟨a5, b5⟩ := sgn_addD x y 5
  obtain ⟨a6, b6⟩ := sgn_addD x y 6
  rw [← f2] at a0 b0
  rw [← f3] at a1 b1
  rw [← f4] at a2 b2
  rw [← f5] at a3 b3
  rw [← f6] at a4 b4
  rw [← f7] at a5 b5
  rw [← f8] at a6 b6
  have x1 := sum_D hx
  have y1 := sum_D hy
  have lx := D_lt x
  have ly := D_lt y
  refine ⟨?_, smallW7 (a := s 2) (b := s 3) (c := s 4) (d := s 5) (e := s 6) (f := s 7) (g := s 8) ⟨b0, b1, b2, b3, b4, b5, b6⟩ ?_⟩
  · show sgn (s 2) + 4294967296 * (sgn (s 3) + 4294967296 * (sgn (s 4) + 4294967296 * (sgn (s 5) + 4294967296 * (sgn (s 6) + 4294967296 * (sgn (s 7) + 4294967296 * (sgn (s 8) + 4294967296 * 0)))))) = _
    rw [a0, a1, a2, a3, a4, a5, a6]
    clear f2 f3 f4 f5 f6 f7 f8 e2 e3 e4 e5 e6 e7 e8 a0 a1 a2 a3 a4 a5 a6 b0 b1 b2 b3 b4 b5 b6 lx ly
    omega
  · have := lx 0; have := lx 1; have := lx 2; have := lx 3; have := lx 4; have := lx 5; have := lx 6
    have := ly 0; have := ly 1; have := ly 2; have := ly 3; have := ly 4; have := ly 5; have := ly 6
    clear f2 f3 f4 f5 f6 f7 f8 e2 e3 e4 e5 e6 e7 e8 x1 y1
    omega
theorem law70 {s : Nums} {x y : Nat} (hx : x < 2 ^ 224) (hy : y < 2 ^ 224) (h0 : s 0 = x) (h1 : s 1 = y) (h : Holds s 9 head70) : sumW (vals s W7) = (x : Int) - y ∧ smallW (vals s W7) = true := by
  obtain ⟨e8, e7, e6, e5, e4, e3, e2, _⟩ := h
  have f2 : s 2 = (D (s 0) 0 + (2 ^ 64 - D (s 1) 0)) % 2 ^ 64 := e2
  have f3 : s 3 = (D (s 0) 1 + (2 ^ 64 - D (s 1) 1)) % 2 ^ 64 := e3
  have f4 : s 4 = (D (s 0) 2 + (2 ^ 64 - D (s 1) 2)) % 2 ^ 64 := e4
  have f5 : s 5 = (D (s 0) 3 + (2 ^ 64 - D (s 1) 3)) % 2 ^ 64 := e5
  have f6 : s 6 = (D (s 0) 4 + (2 ^ 64 - D (s 1) 4)) % 2 ^ 64 := e6
  have f7 : s 7 = (D (s 0) 5 + (2 ^ 64 - D (s 1) 5)) % 2 ^ 64 := e7
  have f8 : s 8 = (D (s 0) 6 + (2 ^ 64 - D (s 1) 6)) % 2 ^ 64 := e8
  rw [h0, h1] at f2 f3 f4 f5 f6 f7 f8
  obtain ⟨a0, b0⟩ := sgn_sub (D_lt x 0) (D_lt y 0)
  obtain ⟨a1, b1⟩ := sgn_sub (D_lt x 1) (D_lt y 1)
  obtain ⟨a2, b2⟩ := sgn_sub (D_lt x 2) (D_lt y 2)
  obtain ⟨a3, b3⟩ := sgn_sub (D_lt x 3) (D_lt y 3)
  obtain ⟨a4, b4⟩ := sgn_sub (D_lt x 4) (D_lt y 4)
  obtain ⟨a5, b5⟩ := sgn_sub (D_lt x 5) (D_lt y 5)
  obtain ⟨a6, b6⟩ := sgn_sub (D_lt x 6) (D_lt y 6)
  rw [← f2] at a0 b0
  rw [← f3] at a1 b1
  rw [← f4] at a2 b2
  rw [← f5] at a3 b3
  rw [← f6] at a4 b4
  rw [← f7] at a5 b5
  rw [← f8] at a6 b6
  have x1 := sum_D hx
  have y1 := sum_D hy
  have lx := D_lt x
  have ly := D_lt y
  refine ⟨?_, smallW7 (a := s 2) (b := s 3) (c := s 4) (d := s 5) (e := s 6) (f := s 7) (g := s 8) ⟨b0, b1, b2, b3, b4, b5, b6⟩ ?_⟩
  · show sgn (s 2) + 4294967296 * (sgn (s 3) + 4294967296 * (sgn (s 4) + 4294967296 * (sgn (s 5) + 4294967296 * (sgn (s 6) + 4294967296 * (sgn (s 7) + 4294967296 * (sgn (s 8) + 4294967296 * 0)))))) = _
    rw [a0, a1, a2, a3, a4, a5, a6]
    clear f2 f3 f4 f5 f6 f7 f8 e2 e3 e4 e5 e6 e7 e8 a0 a1 a2 a3 a4 a5 a6 b0 b1 b2 b3 b4 b5 b6 lx ly
    omega
  · have := lx 0; have := lx 1; have := lx 2; have := lx 3; have := lx 4; have := lx 5; have := lx 6
    have := ly 0; have := ly 1; have := ly 2; have := ly 3; have := ly 4; have := ly 5; have := ly 6
    clear f2 f3 f4 f5 f6 f7 f8 e2 e3 e4 e5 e6 e7 e8 x1 y1
    omega

theorem meets71 (w : World) (bf of b1 o1 c1 b2 o2 c2 x y : Nat) (hc1 : 7 ≤ c1) (hc2 : 7 ≤ c2) (hfo : FoldsAt w bf of) (hx : El w b1 o1 x) (hy : El w b2 o2 y) :
    Meets Try.prog 71 #[curveV bf of, .slice (some ⟨b1, o1, none⟩) 7 c1, .slice (some ⟨b2, o2, none⟩) 7 c2] w (NewEl w 7 (((x : Int) + y) % pq).toNat) := by
  have := hx.2
  have := hy.2
  exact meets_ways ways71 Try.ntmps71 (by decide) Try.func71 (by kernel_rfl) (by kernel_rfl) (by decide) w bf of b1 o1 c1 b2 o2 c2 x y hc1 hc2 hfo hx hy (by omega) (by omega) fun s h0 h1 h => law71 hx.2 hy.2 h0 h1 h
theorem meets70 (w : World) (bf of b1 o1 c1 b2 o2 c2 x y : Nat) (hc1 : 7 ≤ c1) (hc2 : 7 ≤ c2) (hfo : FoldsAt w bf of) (hx : El w b1 o1 x) (hy : El w b2 o2 y) :
    Meets Try.prog 70 #[curveV bf of, .slice (some ⟨b1, o1, none⟩) 7 c1, .slice (some ⟨b2, o2, none⟩) 7 c2] w (NewEl w 7 (((x : Int) - y) % pq).toNat) := by
  have := hx.2
  have := hy.2
  exact meets_ways ways70 Try.ntmps70 (by decide) Try.func70 (by kernel_rfl) (by kernel_rfl) (by decide) w bf of b1 o1 c1 b2 o2 c2 x y hc1 hc2 hfo hx hy (by omega) (by omega) fun s h0 h1 h => law70 hx.2 hy.2 h0 h1 h
end P224
