/- PRINTED BY A PROGRAM OF MY OWN (gen/f8.py): constantTimeCompare. -/
import Derived.Test.YtccmmkgiamcgeaaGF7
set_option linter.all false
namespace P224
open Go Go.RowKit Go.Proofs
set_option maxRecDepth 100000

theorem xor_zero_iff {x y : Nat} : x ^^^ y = 0 ↔ x = y := by
  constructor
  · intro h
    have : (x ^^^ y) ^^^ y = 0 ^^^ y := by rw [h]
    rwa [Nat.xor_assoc, Nat.xor_self, Nat.xor_zero, Nat.zero_xor] at this
  · intro h
    rw [h, Nat.xor_self]
theorem or_step {a b c x y : Nat} (e : c = a ||| b) (e' : b = x ^^^ y) : c = 0 ↔ a = 0 ∧ x = y := by
  rw [e, e', Nat.or_eq_zero_iff, xor_zero_iff]

def ex114 : List Ex := [
.feq (.v 111) (.c 0),
.or (.v 109) (.v 110),
.xor (.v 27) (.v 55),
.or (.v 107) (.v 108),
.xor (.v 26) (.v 54),
.or (.v 105) (.v 106),
.xor (.v 25) (.v 53),
.or (.v 103) (.v 104),
.xor (.v 24) (.v 52),
.or (.v 101) (.v 102),
.xor (.v 23) (.v 51),
.or (.v 99) (.v 100),
.xor (.v 22) (.v 50),
.or (.v 97) (.v 98),
.xor (.v 21) (.v 49),
.or (.v 95) (.v 96),
.xor (.v 20) (.v 48),
.or (.v 93) (.v 94),
.xor (.v 19) (.v 47),
.or (.v 91) (.v 92),
.xor (.v 18) (.v 46),
.or (.v 89) (.v 90),
.xor (.v 17) (.v 45),
.or (.v 87) (.v 88),
.xor (.v 16) (.v 44),
.or (.v 85) (.v 86),
.xor (.v 15) (.v 43),
.or (.v 83) (.v 84),
.xor (.v 14) (.v 42),
.or (.v 81) (.v 82),
.xor (.v 13) (.v 41),
.or (.v 79) (.v 80),
.xor (.v 12) (.v 40),
.or (.v 77) (.v 78),
.xor (.v 11) (.v 39),
.or (.v 75) (.v 76),
.xor (.v 10) (.v 38),
.or (.v 73) (.v 74),
.xor (.v 9) (.v 37),
.or (.v 71) (.v 72),
.xor (.v 8) (.v 36),
.or (.v 69) (.v 70),
.xor (.v 7) (.v 35),
.or (.v 67) (.v 68),
.xor (.v 6) (.v 34),
.or (.v 65) (.v 66),
.xor (.v 5) (.v 33),
.or (.v 63) (.v 64),
.xor (.v 4) (.v 32),
.or (.v 61) (.v 62),
.xor (.v 3) (.v 31),
.or (.v 59) (.v 60),
.xor (.v 2) (.v 30),
.or (.v 57) (.v 58),
.xor (.v 1) (.v 29),
.or (.c 0) (.v 56),
.xor (.v 0) (.v 28)]

open Classical in
theorem holds114 {s : Nums} (h : Holds s 113 ex114) : s 112 = if (∀ k, k < 28 → s k = s (28 + k)) then 1 else 0 := by
  have e56 : s 56 = s 0 ^^^ s 28 := h.at 56 56 (.xor (.v 0) (.v 28)) rfl rfl
  have e57 : s 57 = 0 ||| s 56 := h.at 55 57 (.or (.c 0) (.v 56)) rfl rfl
  have e58 : s 58 = s 1 ^^^ s 29 := h.at 54 58 (.xor (.v 1) (.v 29)) rfl rfl
  have e59 : s 59 = s 57 ||| s 58 := h.at 53 59 (.or (.v 57) (.v 58)) rfl rfl
  have e60 : s 60 = s 2 ^^^ s 30 := h.at 52 60 (.xor (.v 2) (.v 30)) rfl rfl
  have e61 : s 61 = s 59 ||| s 60 := h.at 51 61 (.or (.v 59) (.v 60)) rfl rfl
  have e62 : s 62 = s 3 ^^^ s 31 := h.at 50 62 (.xor (.v 3) (.v 31)) rfl rfl
  have e63 : s 63 = s 61 ||| s 62 := h.at 49 63 (.or (.v 61) (.v 62)) rfl rfl
  have e64 : s 64 = s 4 ^^^ s 32 := h.at 48 64 (.xor (.v 4) (.v 32)) rfl rfl
  have e65 : s 65 = s 63 ||| s 64 := h.at 47 65 (.or (.v 63) (.v 64)) rfl rfl
  have e66 : s 66 = s 5 ^^^ s 33 := h.at 46 66 (.xor (.v 5) (.v 33)) rfl rfl
  have e67 : s 67 = s 65 ||| s 66 := h.at 45 67 (.or (.v 65) (.v 66)) rfl rfl
  have e68 : s 68 = s 6 ^^^ s 34 := h.at 44 68 (.xor (.v 6) (.v 34)) rfl rfl
  have e69 : s 69 = s 67 ||| s 68 := h.at 43 69 (.or (.v 67) (.v 68)) rfl rfl
  have e70 : s 70 = s 7 ^^^ s 35 := h.at 42 70 (.xor (.v 7) (.v 35)) rfl rfl
  have e71 : s 71 = s 69 ||| s 70 := h.at 41 71 (.or (.v 69) (.v 70)) rfl rfl
  have e72 : s 72 = s 8 ^^^ s 36 := h.at 40 72 (.xor (.v 8) (.v 36)) rfl rfl
  have e73 : s 73 = s 71 ||| s 72 := h.at 39 73 (.or (.v 71) (.v 72)) rfl rfl
  have e74 : s 74 = s 9 ^^^ s 37 := h.at 38 74 (.xor (.v 9) (.v 37)) rfl rfl
  have e75 : s 75 = s 73 ||| s 74 := h.at 37 75 (.or (.v 73) (.v 74)) rfl rfl
  have e76 : s 76 = s 10 ^^^ s 38 := h.at 36 76 (.xor (.v 10) (.v 38)) rfl rfl
  have e77 : s 77 = s 75 ||| s 76 := h.at 35 77 (.or (.v 75) (.v 76)) rfl rfl
  have e78 : s 78 = s 11 ^^^ s 39 := h.at 34 78 (.xor (.v 11) (.v 39)) rfl rfl
  have e79 : s 79 = s 77 ||| s 78 := h.at 33 79 (.or (.v 77) (.v 78)) rfl rfl
  have e80 : s 80 = s 12 ^^^ s 40 := h.at 32 80 (.xor (.v 12) (.v 40)) rfl rfl
  have e81 : s 81 = s 79 ||| s 80 := h.at 31 81 (.or (.v 79) (.v 80)) rfl rfl
  have e82 : s 82 = s 13 ^^^ s 41 := h.at 30 82 (.xor (.v 13) (.v 41)) rfl rfl
  have e83 : s 83 = s 81 ||| s 82 := h.at 29 83 (.or (.v 81) (.v 82)) rfl rfl
  have e84 : s 84 = s 14 ^^^ s 42 := h.at 28 84 (.xor (.v 14) (.v 42)) rfl rfl
  have e85 : s 85 = s 83 ||| s 84 := h.at 27 85 (.or (.v 83) (.v 84)) rfl rfl
  have e86 : s 86 = s 15 ^^^ s 43 := h.at 26 86 (.xor (.v 15) (.v 43)) rfl rfl
  have e87 : s 87 = s 85 ||| s 86 := h.at 25 87 (.or (.v 85) (.v 86)) rfl rfl
  have e88 : s 88 = s 16 ^^^ s 44 := h.at 24 88 (.xor (.v 16) (.v 44)) rfl rfl
  have e89 : s 89 = s 87 ||| s 88 := h.at 23 89 (.or (.v 87) (.v 88)) rfl rfl
  have e90 : s 90 = s 17 ^^^ s 45 := h.at 22 90 (.xor (.v 17) (.v 45)) rfl rfl
  have e91 : s 91 = s 89 ||| s 90 := h.at 21 91 (.or (.v 89) (.v 90)) rfl rfl
  have e92 : s 92 = s 18 ^^^ s 46 := h.at 20 92 (.xor (.v 18) (.v 46)) rfl rfl
  have e93 : s 93 = s 91 ||| s 92 := h.at 19 93 (.or (.v 91) (.v 92)) rfl rfl
  have e94 : s 94 = s 19 ^^^ s 47 := h.at 18 94 (.xor (.v 19) (.v 47)) rfl rfl
  have e95 : s 95 = s 93 ||| s 94 := h.at 17 95 (.or (.v 93) (.v 94)) rfl rfl
  have e96 : s 96 = s 20 ^^^ s 48 := h.at 16 96 (.xor (.v 20) (.v 48)) rfl rfl
  have e97 : s 97 = s 95 ||| s 96 := h.at 15 97 (.or (.v 95) (.v 96)) rfl rfl
  have e98 : s 98 = s 21 ^^^ s 49 := h.at 14 98 (.xor (.v 21) (.v 49)) rfl rfl
  have e99 : s 99 = s 97 ||| s 98 := h.at 13 99 (.or (.v 97) (.v 98)) rfl rfl
  have e100 : s 100 = s 22 ^^^ s 50 := h.at 12 100 (.xor (.v 22) (.v 50)) rfl rfl
  have e101 : s 101 = s 99 ||| s 100 := h.at 11 101 (.or (.v 99) (.v 100)) rfl rfl
  have e102 : s 102 = s 23 ^^^ s 51 := h.at 10 102 (.xor (.v 23) (.v 51)) rfl rfl
  have e103 : s 103 = s 101 ||| s 102 := h.at 9 103 (.or (.v 101) (.v 102)) rfl rfl
  have e104 : s 104 = s 24 ^^^ s 52 := h.at 8 104 (.xor (.v 24) (.v 52)) rfl rfl
  have e105 : s 105 = s 103 ||| s 104 := h.at 7 105 (.or (.v 103) (.v 104)) rfl rfl
  have e106 : s 106 = s 25 ^^^ s 53 := h.at 6 106 (.xor (.v 25) (.v 53)) rfl rfl
  have e107 : s 107 = s 105 ||| s 106 := h.at 5 107 (.or (.v 105) (.v 106)) rfl rfl
  have e108 : s 108 = s 26 ^^^ s 54 := h.at 4 108 (.xor (.v 26) (.v 54)) rfl rfl
  have e109 : s 109 = s 107 ||| s 108 := h.at 3 109 (.or (.v 107) (.v 108)) rfl rfl
  have e110 : s 110 = s 27 ^^^ s 55 := h.at 2 110 (.xor (.v 27) (.v 55)) rfl rfl
  have e111 : s 111 = s 109 ||| s 110 := h.at 1 111 (.or (.v 109) (.v 110)) rfl rfl
  have e112 : s 112 = if s 111 = 0 then 1 else 0 := h.at 0 112 (.feq (.v 111) (.c 0)) rfl rfl
  clear h
  have key : s 111 = 0 ↔ ∀ k, k < 28 → s k = s (28 + k) := by
    rw [or_step e111 e110, or_step e109 e108, or_step e107 e106, or_step e105 e104, or_step e103 e102, or_step e101 e100, or_step e99 e98, or_step e97 e96, or_step e95 e94, or_step e93 e92, or_step e91 e90, or_step e89 e88, or_step e87 e86, or_step e85 e84, or_step e83 e82, or_step e81 e80, or_step e79 e78, or_step e77 e76, or_step e75 e74, or_step e73 e72, or_step e71 e70, or_step e69 e68, or_step e67 e66, or_step e65 e64, or_step e63 e62, or_step e61 e60, or_step e59 e58, or_step e57 e56]
    constructor
    · intro h k hk
      obtain ⟨⟨⟨⟨⟨⟨⟨⟨⟨⟨⟨⟨⟨⟨⟨⟨⟨⟨⟨⟨⟨⟨⟨⟨⟨⟨⟨⟨_, h0⟩, h1⟩, h2⟩, h3⟩, h4⟩, h5⟩, h6⟩, h7⟩, h8⟩, h9⟩, h10⟩, h11⟩, h12⟩, h13⟩, h14⟩, h15⟩, h16⟩, h17⟩, h18⟩, h19⟩, h20⟩, h21⟩, h22⟩, h23⟩, h24⟩, h25⟩, h26⟩, h27⟩ := h
      have hc : k = 0 ∨ k = 1 ∨ k = 2 ∨ k = 3 ∨ k = 4 ∨ k = 5 ∨ k = 6 ∨ k = 7 ∨ k = 8 ∨ k = 9 ∨ k = 10 ∨ k = 11 ∨ k = 12 ∨ k = 13 ∨ k = 14 ∨ k = 15 ∨ k = 16 ∨ k = 17 ∨ k = 18 ∨ k = 19 ∨ k = 20 ∨ k = 21 ∨ k = 22 ∨ k = 23 ∨ k = 24 ∨ k = 25 ∨ k = 26 ∨ k = 27 := by omega
      rcases hc with rfl | rfl | rfl | rfl | rfl | rfl | rfl | rfl | rfl | rfl | rfl | rfl | rfl | rfl | rfl | rfl | rfl | rfl | rfl | rfl | rfl | rfl | rfl | rfl | rfl | rfl | rfl | rfl
      · exact h0
      · exact h1
      · exact h2
      · exact h3
      · exact h4
      · exact h5
      · exact h6
      · exact h7
      · exact h8
      · exact h9
      · exact h10
      · exact h11
      · exact h12
      · exact h13
      · exact h14
      · exact h15
      · exact h16
      · exact h17
      · exact h18
      · exact h19
      · exact h20
      · exact h21
      · exact h22
      · exact h23
      · exact h24
      · exact h25
      · exact h26
      · exact h27
    · intro h
      exact ⟨⟨⟨⟨⟨⟨⟨⟨⟨⟨⟨⟨⟨⟨⟨⟨⟨⟨⟨⟨⟨⟨⟨⟨⟨⟨⟨⟨rfl, h 0 (by decide)⟩, h 1 (by decide)⟩, h 2 (by decide)⟩, h 3 (by decide)⟩, h 4 (by decide)⟩, h 5 (by decide)⟩, h 6 (by decide)⟩, h 7 (by decide)⟩, h 8 (by decide)⟩, h 9 (by decide)⟩, h 10 (by decide)⟩, h 11 (by decide)⟩, h 12 (by decide)⟩, h 13 (by decide)⟩, h 14 (by decide)⟩, h 15 (by decide)⟩, h 16 (by decide)⟩, h 17 (by decide)⟩, h 18 (by decide)⟩, h 19 (by decide)⟩, h 20 (by decide)⟩, h 21 (by decide)⟩, h 22 (by decide)⟩, h 23 (by decide)⟩, h 24 (by decide)⟩, h 25 (by decide)⟩, h 26 (by decide)⟩, h 27 (by decide)⟩
  rw [e112]
  by_cases hz : s 111 = 0
  · rw [if_pos hz, if_pos (key.1 hz)]
  · rw [if_neg hz, if_neg (fun hh => hz (key.2 hh))]

def b28 (i : Nat) : List A0 := (List.range 28).map fun k => .num .u8 (i + k)
def decFix (nt n w : Nat) (l : List (Nat × Bool)) : Fix := { nt := nt, nold := n, wr := fun r => decide (r < w), sep := fun r q => r != q, dec := fun i => (l.find? fun x => x.1 == i).map (·.2) }
def noSep (nt n w : Nat) (l : List (Nat × Bool)) : Fix := { nt := nt, nold := n, wr := fun r => decide (r < w), sep := fun _ _ => false, dec := fun i => (l.find? fun x => x.1 == i).map (·.2) }
def st114 : St := startSt [.one (.slc 0 0 28 28), .one (.slc 1 0 28 28)] [(0, b28 0), (1, b28 28)] 56 2

theorem row_of {s : Nums} {β : Places} {n r : Nat} {w : World} : ∀ {l : List A0} {k : Nat}, (∀ (j : Nat) (x : A0), l[j]? = some x → ∃ v, w.cell? (at_ β r (k + j)) = some v ∧ x.rep s β n v) → RowOk s β n r w k l
  | [], _, _ => trivial
  | y :: l, k, h => ⟨by have := h 0 y rfl; rwa [Nat.add_zero] at this, row_of fun j x hx => by have := h (j + 1) x (by simpa using hx); rwa [Nat.add_assoc, Nat.add_comm 1 j]⟩
theorem b28_row {s : Nums} {β : Places} {n r : Nat} {w : World} {b o i : Nat} {f : Nat → Nat} (hβ : β r = (b, o)) (h : BytesAt w b o f) (hs : ∀ k, k < 28 → s (i + k) = f k) : RowOk s β n r w 0 (b28 i) :=
  row_of fun j x hx => by
    have hj : j < 28 := by have := (List.getElem?_eq_some_iff.1 hx).1; simpa [b28] using this
    have hx' : x = .num .u8 (i + j) := by
      rw [b28, List.getElem?_map, List.getElem?_range hj] at hx
      exact (Option.some.inj hx).symm
    subst hx'
    obtain ⟨h1, h2⟩ := h j hj
    refine ⟨_, by rw [at_, hβ, Nat.zero_add]; exact h1, ?_, ?_⟩
    · rw [hs j hj]
    · rw [hs j hj]; exact h2

theorem run114t : brief [4] (runF (tabOf true []) (noSep 31 2 0 [(112, true)]) 2000 Try.f114 st114) = some (.ret, 113, ex114, [], [some (.one (.lit (.int .i64 1)))]) := by kernel_rfl
theorem run114f : brief [4] (runF (tabOf true []) (noSep 31 2 0 [(112, false)]) 2000 Try.f114 st114) = some (.ret, 113, ex114, [], [some (.one (.lit (.int .i64 0)))]) := by kernel_rfl
theorem tab0_ok (b : Bool) : (tabOf b []).Ok Try.prog := tab_ok _ _ fun _ _ h => by cases h

open Classical in
/-- The comparison of twenty-eight bytes. -/
theorem meets114 (w : World) (b1 o1 b2 o2 : Nat) (f g : Nat → Nat) (hf : BytesAt w b1 o1 f) (hg : BytesAt w b2 o2 g) :
    Meets Try.prog 114 #[slice28 b1 o1, slice28 b2 o2] w fun v w' => v = .int .i64 (((if (∀ k, k < 28 → f k = g k) then 1 else 0) : Nat) : Int) ∧ Below w.heap.size w w' := by
  refine meets_of_calls Try.func114 (by kernel_rfl) (by kernel_rfl) ?_
  let β : Places := fun r => if r = 0 then (b1, o1) else (b2, o2)
  have in1 : ∀ s : Nums, (∀ i, i < 56 → s i = if i < 28 then f i else g (i - 28)) → (∀ k, k < 28 → s (0 + k) = f k) ∧ ∀ k, k < 28 → s (28 + k) = g k := fun s hs => by
    refine ⟨fun k hk => ?_, fun k hk => ?_⟩
    · rw [hs _ (by omega), if_pos (by omega), Nat.zero_add]
    · rw [hs _ (by omega), if_neg (by omega), Nat.add_sub_cancel_left]
  have hval : ∀ s : Nums, (∀ i, i < 56 → s i = if i < 28 then f i else g (i - 28)) → Holds s 113 ex114 → s 112 = if (∀ k, k < 28 → f k = g k) then 1 else 0 := fun s hs hH => by
    obtain ⟨i1, i2⟩ := in1 s hs
    rw [holds114 hH]
    have : (∀ k, k < 28 → s k = s (28 + k)) ↔ ∀ k, k < 28 → f k = g k := by
      refine ⟨fun h k hk => ?_, fun h k hk => ?_⟩
      · have := h k hk; rw [i2 k hk] at this; have i1' := i1 k hk; rw [Nat.zero_add] at i1'; rw [← i1', this]
      · have i1' := i1 k hk; rw [Nat.zero_add] at i1'; rw [i1', i2 k hk, h k hk]
    by_cases hc : ∀ k, k < 28 → f k = g k
    · rw [if_pos hc, if_pos (this.2 hc)]
    · rw [if_neg hc, if_neg (fun h => hc (this.1 h))]
  have hold : ∀ r, r < 2 → (β r).1 < w.heap.size := fun r _ => by
    show (if r = 0 then (b1, o1) else (b2, o2)).1 < _
    split
    · exact World.block_lt_of_cell? w _ (hf 0 (by decide)).1
    · exact World.block_lt_of_cell? w _ (hg 0 (by decide)).1
  by_cases hc : ∀ k, k < 28 → f k = g k
  · refine calls_brief (tab0_ok true) run114t Try.func114 Try.ntmps114 (res := some 4) ⟨.inr rfl, Try.results114⟩ (by decide +kernel) (by decide) (by decide) (by decide) (by decide) (fun i => if i < 28 then f i else g (i - 28)) β
      (vals := [slice28 b1 o1, slice28 b2 o2]) (fun s hs => ⟨⟨rfl, lt02⟩, ⟨rfl, lt12⟩, trivial⟩)
      (fun s hs => ⟨lt02, b28_row rfl hf (in1 s hs).1, lt12, b28_row rfl hg (in1 s hs).2, trivial⟩) (fun r l _ hr => absurd (of_decide_eq_true (show decide (r < 0) = true from hr)) (Nat.not_lt_zero r)) hold (fun r q _ _ h => by cases h) ?_ ?_
    · intro s hs hH i b hb
      have hv := hval s hs hH
      rw [if_pos hc] at hv
      have : i = 112 ∧ b = true := by
        simp only [noSep, List.find?] at hb
        split at hb
        · rename_i he; cases hb; exact ⟨(beq_iff_eq.1 he).symm, rfl⟩
        · cases hb
      obtain ⟨rfl, rfl⟩ := this
      exact hv
    · intro s hs hH st' β' a' w' hts hag hr hbe
      have hv := hr.tm 4 _ (map_get hts 0 4 _ rfl rfl)
      refine ⟨_, rfl, ?_, hbe⟩
      rw [if_pos hc]
      exact hv
  · refine calls_brief (tab0_ok true) run114f Try.func114 Try.ntmps114 (res := some 4) ⟨.inr rfl, Try.results114⟩ (by decide +kernel) (by decide) (by decide) (by decide) (by decide) (fun i => if i < 28 then f i else g (i - 28)) β
      (vals := [slice28 b1 o1, slice28 b2 o2]) (fun s hs => ⟨⟨rfl, lt02⟩, ⟨rfl, lt12⟩, trivial⟩)
      (fun s hs => ⟨lt02, b28_row rfl hf (in1 s hs).1, lt12, b28_row rfl hg (in1 s hs).2, trivial⟩) (fun r l _ hr => absurd (of_decide_eq_true (show decide (r < 0) = true from hr)) (Nat.not_lt_zero r)) hold (fun r q _ _ h => by cases h) ?_ ?_
    · intro s hs hH i b hb
      have hv := hval s hs hH
      rw [if_neg hc] at hv
      have : i = 112 ∧ b = false := by
        simp only [noSep, List.find?] at hb
        split at hb
        · rename_i he; cases hb; exact ⟨(beq_iff_eq.1 he).symm, rfl⟩
        · cases hb
      obtain ⟨rfl, rfl⟩ := this
      exact hv
    · intro s hs hH st' β' a' w' hts hag hr hbe
      have hv := hr.tm 4 _ (map_get hts 0 4 _ rfl rfl)
      refine ⟨_, rfl, ?_, hbe⟩
      rw [if_neg hc]
      exact hv
end P224
/- p224InvertEndianness: twenty-eight bytes the other way round. -/
namespace P224
open Go Go.RowKit Go.Proofs
set_option maxRecDepth 100000

theorem setCell_comm (w : World) (b : Nat) {i j : Nat} (h : i ≠ j) (x y : Value) : (w.setCell ⟨b, i, none⟩ x).setCell ⟨b, j, none⟩ y = (w.setCell ⟨b, j, none⟩ y).setCell ⟨b, i, none⟩ x := by
  unfold World.setCell
  congr 1
  refine Array.ext (by simp) fun k h1 h2 => ?_
  simp only [Array.getElem_modify]
  split
  · cases w.heap[k]'(by simpa using h1) <;> simp [Array.setIfInBounds_comm _ _ h]
  · rfl

/-- Cells of one block set, the last of the list first. -/
def setPairs (w : World) (b o : Nat) : List (Nat × Value) → World
  | [] => w
  | (i, v) :: l => (setPairs w b o l).setCell ⟨b, o + i, none⟩ v
theorem setPairs_perm (w : World) (b o : Nat) {l m : List (Nat × Value)} (h : l.Perm m) (hn : (l.map (·.1)).Nodup) : setPairs w b o l = setPairs w b o m := by
  induction h with
  | nil => rfl
  | cons x _ ih =>
    obtain ⟨i, v⟩ := x
    rw [List.map_cons, List.nodup_cons] at hn
    rw [setPairs, setPairs, ih hn.2]
  | swap x y l =>
    obtain ⟨i, v⟩ := x
    obtain ⟨j, u⟩ := y
    have hij : i ≠ j := by
      intro e
      subst e
      simp at hn
    rw [setPairs, setPairs, setPairs, setPairs, setCell_comm _ _ (by omega)]
  | trans h1 _ ih1 ih2 => rw [ih1 hn, ih2 ((h1.map _).nodup_iff.1 hn)]

theorem setCells_pairs (b o : Nat) (f : Nat → Value) : ∀ (n : Nat) (w : World), w.setCells b o ((List.range n).map f) = setPairs w b o ((List.range n).reverse.map fun i => (i, f i))
  | 0, w => rfl
  | n + 1, w => by
    rw [List.range_succ, List.map_append, setCells_append, setCells_pairs b o f n w, List.reverse_append]
    simp only [List.map_cons, List.map_nil, List.reverse_cons, List.reverse_nil, List.nil_append, List.singleton_append, List.map_cons, setPairs, List.length_map, List.length_range]
    rfl

def pairs111 : List (Nat × Nat) := [(14, 13), (13, 14), (15, 12), (12, 15), (16, 11), (11, 16), (17, 10), (10, 17), (18, 9), (9, 18), (19, 8), (8, 19), (20, 7), (7, 20), (21, 6), (6, 21), (22, 5), (5, 22), (23, 4), (4, 23), (24, 3), (3, 24), (25, 2), (2, 25), (26, 1), (1, 26), (27, 0), (0, 27)]
def out111 : List (Nat × Nat × A0) := pairs111.map fun p => (0, p.1, .num .u8 p.2)
def st111 : St := startSt [.one (.slc 0 0 28 28)] [(0, b28 0)] 28 1

theorem run111 : brief [] (runF (tabOf true []) (noSep 32 1 1 []) 2000 Try.f111 st111) = some (.normal, 28, [], out111, []) := by kernel_rfl

theorem applyOut_pairs {s : Nums} {β : Places} {w : World} {b o : Nat} (hβ : β 0 = (b, o)) : ∀ l : List (Nat × Nat), applyOut s β w (l.map fun p => (0, p.1, A0.num .u8 p.2)) = setPairs w b o (l.map fun p => (p.1, .int .u8 (s p.2 : Int)))
  | [] => rfl
  | (i, j) :: l => by
    show (applyOut s β w (l.map fun p => (0, p.1, A0.num .u8 p.2))).setCell (at_ β 0 i) (.int .u8 (s j : Int)) = (setPairs w b o (l.map fun p => (p.1, .int .u8 (s p.2 : Int)))).setCell ⟨b, o + i, none⟩ (.int .u8 (s j : Int))
    rw [applyOut_pairs hβ l, at_, hβ]

theorem perm111 : pairs111.Perm ((List.range 28).reverse.map fun i => (i, 27 - i)) := by decide +kernel

theorem nodup111 : (pairs111.map fun p => p.1).Nodup := by decide +kernel


theorem meets111 (w : World) (b o : Nat) (f : Nat → Nat) (hf : BytesAt w b o f) (hfz : ∀ k, k < 28 → w.frozen? ⟨b, o + k, none⟩ = false) :
    Meets Try.prog 111 #[slice28 b o] w fun _ w' => Below w.heap.size (w.setCells b o (bytesRow fun k => f (27 - k))) w' := by
  refine meets_of_calls Try.func111 (by kernel_rfl) (by kernel_rfl) ?_
  refine calls_brief (tab0_ok true) run111 Try.func111 Try.ntmps111 (res := none) ⟨.inl rfl, Try.results111⟩ (by decide +kernel) (by decide) (by decide) (by decide) (by decide) f (fun _ => (b, o))
      (vals := [slice28 b o]) (fun s hs => ⟨⟨rfl, lt01⟩, trivial⟩)
      (fun s hs => ⟨lt01, b28_row rfl hf (fun k hk => by rw [Nat.zero_add]; exact hs k hk), trivial⟩) ?_ (fun r _ => World.block_lt_of_cell? w _ (hf 0 (by decide)).1) (fun r q _ _ h => by cases h) (fun _ _ _ i b h => by cases h) ?_
  · intro r l hl hr j hj
    have h0 : r < 1 := of_decide_eq_true hr
    have : r = 0 := by omega
    subst this
    cases hl
    exact hfz j (by simpa [b28] using hj)
  · intro s hs hH st' β' a' w' hts hag hr hbe
    refine ⟨_, rfl, ?_⟩
    have hb0 : β' 0 = (b, o) := hag 0 lt01
    have e : applyOut s β' w out111 = w.setCells b o (bytesRow fun k => f (27 - k)) := by
      rw [out111, applyOut_pairs hb0, bytesRow, setCells_pairs]
      have hp := perm111.map fun p : Nat × Nat => (p.1, (Value.int .u8 (s p.2 : Int)))
      rw [setPairs_perm w b o hp (by rw [List.map_map]; exact nodup111), List.map_map]
      congr 1
      refine List.map_congr_left fun i hi => ?_
      have : i < 28 := by simpa using hi
      show (i, Value.int .u8 (s (27 - i) : Int)) = _
      rw [hs (27 - i) (by omega)]
    rw [e] at hbe
    exact hbe
end P224
