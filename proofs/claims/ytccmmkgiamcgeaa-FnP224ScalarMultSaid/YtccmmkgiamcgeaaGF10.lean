/- PRINTED BY A PROGRAM OF MY OWN (gen/f10.py): out of the stored form and into it; bytes of words and words of bytes. -/
import Derived.Test.YtccmmkgiamcgeaaGF8
set_option linter.all false
namespace P224
open Go Go.RowKit Go.Proofs
set_option maxRecDepth 100000

theorem dg_lt (k x : Nat) : dg k x < 18446744073709551616 := Nat.mod_lt _ (Nat.two_pow_pos _)
theorem dg_sum {x : Nat} (h : x < pq) : S4 (dg 0 x) (dg 1 x) (dg 2 x) (dg 3 x) = x := by
  have h2 := pq_224
  unfold dg
  have e0 : (2 : Nat) ^ (64 * 0) = 1 := by decide
  have e1 : (2 : Nat) ^ (64 * 1) = 18446744073709551616 := by decide
  have e2 : (2 : Nat) ^ (64 * 2) = 340282366920938463463374607431768211456 := by decide
  have e3 : (2 : Nat) ^ (64 * 3) = 6277101735386680763835789423207666416102355444464034512896 := by decide +kernel
  have e4 : (2 : Nat) ^ 224 = 26959946667150639794667015087019630673637144422540572481103610249216 := by decide +kernel
  rw [e4] at h2
  rw [e0, e1, e2, e3]
  show _ + 18446744073709551616 * _ + 340282366920938463463374607431768211456 * _ + 6277101735386680763835789423207666416102355444464034512896 * _ = x
  omega
theorem dg_of_sum {r0 r1 r2 r3 x : Nat} (h : S4 r0 r1 r2 r3 = x) (hx : x < pq) (h0 : r0 < 18446744073709551616) (h1 : r1 < 18446744073709551616) (h2 : r2 < 18446744073709551616) (_h3 : r3 < 18446744073709551616) :
    r0 = dg 0 x ∧ r1 = dg 1 x ∧ r2 = dg 2 x ∧ r3 = dg 3 x := by
  have := dg_sum hx
  have l0 := dg_lt 0 x
  have l1 := dg_lt 1 x
  have l2 := dg_lt 2 x
  have l3 := dg_lt 3 x
  have h' : r0 + 18446744073709551616 * r1 + 340282366920938463463374607431768211456 * r2 + 6277101735386680763835789423207666416102355444464034512896 * r3 = x := h
  have h'' : dg 0 x + 18446744073709551616 * dg 1 x + 340282366920938463463374607431768211456 * dg 2 x + 6277101735386680763835789423207666416102355444464034512896 * dg 3 x = x := this
  omega
theorem w4_dig {s : Nums} {β : Places} {n r : Nat} {w : World} {b o x i : Nat} (hβ : β r = (b, o)) (h : DigAt w b o x) (hs : ∀ k, k < 4 → s (i + k) = dg k x) : RowOk s β n r w 0 (w4 i) := by
  have key : ∀ k, k < 4 → ∃ v, w.cell? (at_ β r k) = some v ∧ (A0.num .u64 (i + k)).rep s β n v := fun k hk => by
    refine ⟨_, by rw [at_, hβ]; exact h k hk, ?_, ?_⟩
    · rw [hs k hk]
    · rw [hs k hk]; exact dg_lt k x
  exact ⟨key 0 (by decide), key 1 (by decide), key 2 (by decide), key 3 (by decide), trivial⟩
theorem out4_digs {s : Nums} {β : Places} {w : World} {a b c d v x o : Nat} (hβ : β 0 = (x, o)) (h : s a = dg 0 v ∧ s b = dg 1 v ∧ s c = dg 2 v ∧ s d = dg 3 v) : applyOut s β w (out4 a b c d) = w.setCells x o (digsV v) := by
  obtain ⟨h0, h1, h2, h3⟩ := h
  have e : applyOut s β w (out4 a b c d) = (((w.setCell (at_ β 0 0) (.int .u64 (s a : Int))).setCell (at_ β 0 1) (.int .u64 (s b : Int))).setCell (at_ β 0 2) (.int .u64 (s c : Int))).setCell (at_ β 0 3) (.int .u64 (s d : Int)) := rfl
  rw [e, h0, h1, h2, h3]
  simp only [at_, hβ]
  rfl
theorem four_of {s : Nums} {f : Nat → Nat} (h : ∀ k, k < 4 → s (0 + k) = f k) : s 0 = f 0 ∧ s 1 = f 1 ∧ s 2 = f 2 ∧ s 3 = f 3 := ⟨h 0 (by decide), h 1 (by decide), h 2 (by decide), h 3 (by decide)⟩

theorem run123 : brief [] (runF (tabOf false wordPrims) (regFix 496 2 1) 2000 Try.f123 st2) = some (.normal, 127, ex123, out4 123 124 125 126, []) := by kernel_rfl
theorem meets123 (w : World) (b o b1 o1 x : Nat) (hlt : b < w.heap.size) (hroom : RoomAt w b o) (hx : ElemAt w b1 o1 x) (hxl : x < pq) :
    Meets Try.prog 123 #[ptrTo b o, ptrTo b1 o1] w fun _ w' => Below w.heap.size (w.setCells b o (digsV x)) w' := by
  refine meets_of_calls Try.func123 (by kernel_rfl) (by kernel_rfl) ?_
  let β : Places := fun r => if r = 0 then (b, o) else (b1, o1)
  have in1 : ∀ s : Nums, (∀ i, i < 4 → s i = lim i x) → (∀ k, k < 4 → s (0 + k) = lim k x) := fun s hs k hk => by
    rw [hs _ (by omega), Nat.zero_add]
  refine calls_brief (tabW_ok) run123 Try.func123 Try.ntmps123 (res := none) ⟨.inl rfl, Try.results123⟩ (by decide +kernel) (by decide +kernel) (by decide +kernel) (by decide) (by decide) (fun i => lim i x) β
    (vals := [ptrTo b o, ptrTo b1 o1]) (fun s hs => ⟨⟨rfl, lt02⟩, ⟨rfl, lt12⟩, trivial⟩)
    (fun s hs => ⟨lt02, any4_row rfl hroom, lt12, w4_row rfl hx (in1 s hs), trivial⟩) ?_ ?_ (fun r q _ _ h => by cases h) (fun _ _ _ i b h => by cases h) ?_
  · intro r l hl hr
    have h0 : r < 1 := of_decide_eq_true hr
    have : r = 0 := by omega
    subst this
    cases hl
    exact any4_frz rfl hroom
  · intro r _
    show (if r = 0 then (b, o) else (b1, o1)).1 < _
    split
    · exact hlt
    · exact World.block_lt_of_cell? w _ (hx 0 (by decide))
  · intro s hs hH st' β' a' w' _ hag _ hbe
    obtain ⟨s0, s1, s2, s3⟩ := four_of (f := fun k => lim k x) (in1 s hs)
    obtain ⟨h1, h2, r0, r1, r2, r3⟩ := holds123 hH (by rw [s0]; exact lim_lt _ _) (by rw [s1]; exact lim_lt _ _) (by rw [s2]; exact lim_lt _ _) (by rw [s3]; exact lim_lt _ _)
    rw [s0, s1, s2, s3, lim_sum] at h1
    have e : S4 (s 123) (s 124) (s 125) (s 126) = x := by
      refine unmont h2 hxl ?_
      exact h1.trans (Nat.mod_mod _ _)
    refine ⟨_, rfl, ?_⟩
    rw [out4_digs (β := β') (hag 0 (by show 0 < 2; decide)) (dg_of_sum e hxl r0 r1 r2 r3)] at hbe
    exact hbe

theorem run113 : brief [] (runF (tabOf false wordPrims) (regFix 770 2 1) 2000 Try.f113 st2) = some (.normal, 197, ex113, out4 193 194 195 196, []) := by kernel_rfl
theorem meets113 (w : World) (b o b1 o1 x : Nat) (hlt : b < w.heap.size) (hroom : RoomAt w b o) (hx : DigAt w b1 o1 x) (hxl : x < pq) :
    Meets Try.prog 113 #[ptrTo b o, ptrTo b1 o1] w fun _ w' => Below w.heap.size (w.setCells b o (words x)) w' := by
  refine meets_of_calls Try.func113 (by kernel_rfl) (by kernel_rfl) ?_
  let β : Places := fun r => if r = 0 then (b, o) else (b1, o1)
  have in1 : ∀ s : Nums, (∀ i, i < 4 → s i = dg i x) → (∀ k, k < 4 → s (0 + k) = dg k x) := fun s hs k hk => by
    rw [hs _ (by omega), Nat.zero_add]
  refine calls_brief (tabW_ok) run113 Try.func113 Try.ntmps113 (res := none) ⟨.inl rfl, Try.results113⟩ (by decide +kernel) (by decide +kernel) (by decide +kernel) (by decide) (by decide) (fun i => dg i x) β
    (vals := [ptrTo b o, ptrTo b1 o1]) (fun s hs => ⟨⟨rfl, lt02⟩, ⟨rfl, lt12⟩, trivial⟩)
    (fun s hs => ⟨lt02, any4_row rfl hroom, lt12, w4_dig rfl hx (in1 s hs), trivial⟩) ?_ ?_ (fun r q _ _ h => by cases h) (fun _ _ _ i b h => by cases h) ?_
  · intro r l hl hr
    have h0 : r < 1 := of_decide_eq_true hr
    have : r = 0 := by omega
    subst this
    cases hl
    exact any4_frz rfl hroom
  · intro r _
    show (if r = 0 then (b, o) else (b1, o1)).1 < _
    split
    · exact hlt
    · exact World.block_lt_of_cell? w _ (hx 0 (by decide))
  · intro s hs hH st' β' a' w' _ hag _ hbe
    obtain ⟨s0, s1, s2, s3⟩ := four_of (f := fun k => dg k x) (in1 s hs)
    obtain ⟨h1, h2, r0, r1, r2, r3⟩ := holds113 hH (by rw [s0]; exact dg_lt _ _) (by rw [s1]; exact dg_lt _ _) (by rw [s2]; exact dg_lt _ _) (by rw [s3]; exact dg_lt _ _)
    rw [s0, s1, s2, s3] at h1
    have hsum := dg_sum hxl
    have e : S4 (s 193) (s 194) (s 195) (s 196) = x * 2 ^ 256 % pq := by
      refine unmont h2 (Nat.mod_lt _ pq_pos) ?_
      have hc : 26959946667150639791744011812698107204071485058075563455699384008705 = 2 ^ 256 * 2 ^ 256 % pq := by decide +kernel
      refine h1.trans ?_
      have : S4 (dg 0 x) (dg 1 x) (dg 2 x) (dg 3 x) * 26959946667150639791744011812698107204071485058075563455699384008705 % pq = x * 2 ^ 256 % pq * 2 ^ 256 % pq := by
        rw [hsum, hc, Nat.mul_mod_mod, Nat.mod_mul_mod, Nat.mul_assoc]
      exact this
    refine ⟨_, rfl, ?_⟩
    rw [out4_apply (β := β') (hag 0 (by show 0 < 2; decide)) (lim_of_sum e r0 r1 r2 r3)] at hbe
    exact hbe

def pairs124 : List (Nat × Nat) := [(27, 79), (26, 77), (25, 74), (24, 71), (23, 69), (22, 67), (21, 64), (20, 61), (19, 58), (18, 55), (17, 52), (16, 49), (15, 47), (14, 45), (13, 42), (12, 39), (11, 36), (10, 33), (9, 30), (8, 27), (7, 25), (6, 23), (5, 20), (4, 17), (3, 14), (2, 11), (1, 8), (0, 5)]
def any28 : List A0 := List.replicate 28 .any
def st124 : St := startSt [.one (.ptr 0 0), .one (.ptr 1 0)] [(0, any28), (1, w4 0)] 4 2
theorem run124 : brief [] (runF (tabOf false wordPrims) (regFix 308 2 1) 2000 Try.f124 st124) = some (.normal, 80, ex124, pairs124.map fun p => (0, p.1, .num .u8 p.2), []) := by kernel_rfl
theorem any28_row {s : Nums} {β : Places} {n r : Nat} {w : World} {b o : Nat} (hβ : β r = (b, o)) (h : Room28 w b o) : RowOk s β n r w 0 any28 :=
  row_of fun j x hx => by
    have hj : j < 28 := by have := (List.getElem?_eq_some_iff.1 hx).1; simpa [any28] using this
    have hx' : x = .any := by
      rw [any28, List.getElem?_replicate, if_pos hj] at hx
      exact (Option.some.inj hx).symm
    subst hx'
    obtain ⟨v, hv⟩ := (h j hj).1
    exact ⟨v, by rw [at_, hβ, Nat.zero_add]; exact hv, trivial⟩
theorem dg_byte (j i x : Nat) (hi : i < 8) : dg j x / 256 ^ i % 256 = by8 (8 * j + i) x := by
  have e1 : (2 : Nat) ^ (64 * j) * 256 ^ i = 256 ^ (8 * j + i) := by
    rw [Nat.pow_add, show (256 : Nat) = 2 ^ 8 from rfl, ← Nat.pow_mul, ← Nat.pow_mul, show 8 * (8 * j) = 64 * j by omega]
  unfold dg by8
  rw [← e1, ← Nat.div_div_eq_div_mul]
  generalize x / 2 ^ (64 * j) = y
  have h8 : i = 0 ∨ i = 1 ∨ i = 2 ∨ i = 3 ∨ i = 4 ∨ i = 5 ∨ i = 6 ∨ i = 7 := by omega
  rcases h8 with rfl | rfl | rfl | rfl | rfl | rfl | rfl | rfl <;> simp only [Nat.reducePow] <;> omega
theorem meets124 (w : World) (b o b1 o1 x : Nat) (hlt : b < w.heap.size) (hroom : Room28 w b o) (hx : DigAt w b1 o1 x) :
    Meets Try.prog 124 #[ptrTo b o, ptrTo b1 o1] w fun _ w' => Below w.heap.size (w.setCells b o (bytesRow fun k => by8 k x)) w' := by
  refine meets_of_calls Try.func124 (by kernel_rfl) (by kernel_rfl) ?_
  let β : Places := fun r => if r = 0 then (b, o) else (b1, o1)
  have in1 : ∀ s : Nums, (∀ i, i < 4 → s i = dg i x) → (∀ k, k < 4 → s (0 + k) = dg k x) := fun s hs k hk => by
    rw [hs _ (by omega), Nat.zero_add]
  refine calls_brief (tabW_ok) run124 Try.func124 Try.ntmps124 (res := none) ⟨.inl rfl, Try.results124⟩ (by decide +kernel) (by decide +kernel) (by decide +kernel) (by decide) (by decide) (fun i => dg i x) β
    (vals := [ptrTo b o, ptrTo b1 o1]) (fun s hs => ⟨⟨rfl, lt02⟩, ⟨rfl, lt12⟩, trivial⟩)
    (fun s hs => ⟨lt02, any28_row rfl hroom, lt12, w4_dig rfl hx (in1 s hs), trivial⟩) ?_ ?_ (fun r q _ _ h => by cases h) (fun _ _ _ i b h => by cases h) ?_
  · intro r l hl hr j hj
    have h0 : r < 1 := of_decide_eq_true hr
    have : r = 0 := by omega
    subst this
    cases hl
    exact (hroom j (by simpa [any28] using hj)).2
  · intro r _
    show (if r = 0 then (b, o) else (b1, o1)).1 < _
    split
    · exact hlt
    · exact World.block_lt_of_cell? w _ (hx 0 (by decide))
  · intro s hs hH st' β' a' w' _ hag _ hbe
    obtain ⟨s0, s1, s2, s3⟩ := four_of (f := fun k => dg k x) (in1 s hs)
    obtain ⟨h0, h1, h2, h3, h4, h5, h6, h7, h8, h9, h10, h11, h12, h13, h14, h15, h16, h17, h18, h19, h20, h21, h22, h23, h24, h25, h26, h27⟩ := holds124 hH
    replace h0 : s 5 = by8 0 x := by rw [h0, s0]; exact dg_byte 0 0 x (by decide)
    replace h1 : s 8 = by8 1 x := by rw [h1, s0]; exact dg_byte 0 1 x (by decide)
    replace h2 : s 11 = by8 2 x := by rw [h2, s0]; exact dg_byte 0 2 x (by decide)
    replace h3 : s 14 = by8 3 x := by rw [h3, s0]; exact dg_byte 0 3 x (by decide)
    replace h4 : s 17 = by8 4 x := by rw [h4, s0]; exact dg_byte 0 4 x (by decide)
    replace h5 : s 20 = by8 5 x := by rw [h5, s0]; exact dg_byte 0 5 x (by decide)
    replace h6 : s 23 = by8 6 x := by rw [h6, s0]; exact dg_byte 0 6 x (by decide)
    replace h7 : s 25 = by8 7 x := by rw [h7, s0]; exact dg_byte 0 7 x (by decide)
    replace h8 : s 27 = by8 8 x := by rw [h8, s1]; exact dg_byte 1 0 x (by decide)
    replace h9 : s 30 = by8 9 x := by rw [h9, s1]; exact dg_byte 1 1 x (by decide)
    replace h10 : s 33 = by8 10 x := by rw [h10, s1]; exact dg_byte 1 2 x (by decide)
    replace h11 : s 36 = by8 11 x := by rw [h11, s1]; exact dg_byte 1 3 x (by decide)
    replace h12 : s 39 = by8 12 x := by rw [h12, s1]; exact dg_byte 1 4 x (by decide)
    replace h13 : s 42 = by8 13 x := by rw [h13, s1]; exact dg_byte 1 5 x (by decide)
    replace h14 : s 45 = by8 14 x := by rw [h14, s1]; exact dg_byte 1 6 x (by decide)
    replace h15 : s 47 = by8 15 x := by rw [h15, s1]; exact dg_byte 1 7 x (by decide)
    replace h16 : s 49 = by8 16 x := by rw [h16, s2]; exact dg_byte 2 0 x (by decide)
    replace h17 : s 52 = by8 17 x := by rw [h17, s2]; exact dg_byte 2 1 x (by decide)
    replace h18 : s 55 = by8 18 x := by rw [h18, s2]; exact dg_byte 2 2 x (by decide)
    replace h19 : s 58 = by8 19 x := by rw [h19, s2]; exact dg_byte 2 3 x (by decide)
    replace h20 : s 61 = by8 20 x := by rw [h20, s2]; exact dg_byte 2 4 x (by decide)
    replace h21 : s 64 = by8 21 x := by rw [h21, s2]; exact dg_byte 2 5 x (by decide)
    replace h22 : s 67 = by8 22 x := by rw [h22, s2]; exact dg_byte 2 6 x (by decide)
    replace h23 : s 69 = by8 23 x := by rw [h23, s2]; exact dg_byte 2 7 x (by decide)
    replace h24 : s 71 = by8 24 x := by rw [h24, s3]; exact dg_byte 3 0 x (by decide)
    replace h25 : s 74 = by8 25 x := by rw [h25, s3]; exact dg_byte 3 1 x (by decide)
    replace h26 : s 77 = by8 26 x := by rw [h26, s3]; exact dg_byte 3 2 x (by decide)
    replace h27 : s 79 = by8 27 x := by rw [h27, s3]; exact dg_byte 3 3 x (by decide)
    refine ⟨_, rfl, ?_⟩
    have e : applyOut s β' w (pairs124.map fun p => (0, p.1, A0.num .u8 p.2)) = w.setCells b o (bytesRow fun k => by8 k x) := by
      rw [applyOut_pairs (β := β') (hag 0 (by show 0 < 2; decide)), bytesRow, setCells_pairs]
      congr 1
      simp only [pairs124, List.map_cons, List.map_nil, h0, h1, h2, h3, h4, h5, h6, h7, h8, h9, h10, h11, h12, h13, h14, h15, h16, h17, h18, h19, h20, h21, h22, h23, h24, h25, h26, h27]
      rfl
    rw [e] at hbe
    exact hbe
end P224
/- p224FromBytes: words of twenty-eight bytes, the lowest first. -/
namespace P224
open Go Go.RowKit Go.Proofs
set_option maxRecDepth 100000

def st112 : St := startSt [.one (.ptr 0 0), .one (.ptr 1 0)] [(0, any4), (1, b28 0)] 28 2
theorem run112 : brief [] (runF (tabOf false wordPrims) (regFix 308 2 1) 2000 Try.f112 st112) = some (.normal, 76, ex112, out4 58 65 72 75, []) := by kernel_rfl

theorem by8_at (j i x : Nat) : by8 (8 * j + i) x = x / 2 ^ (64 * j) / 256 ^ i % 256 := by
  have e1 : (2 : Nat) ^ (64 * j) * 256 ^ i = 256 ^ (8 * j + i) := by
    rw [Nat.pow_add, show (256 : Nat) = 2 ^ 8 from rfl, ← Nat.pow_mul, ← Nat.pow_mul, show 8 * (8 * j) = 64 * j by omega]
  unfold by8
  rw [← e1, ← Nat.div_div_eq_div_mul]

theorem eight_bytes (y : Nat) : y / 256 ^ 0 % 256 + 256 * (y / 256 ^ 1 % 256) + 65536 * (y / 256 ^ 2 % 256) + 16777216 * (y / 256 ^ 3 % 256) + 4294967296 * (y / 256 ^ 4 % 256) + 1099511627776 * (y / 256 ^ 5 % 256) + 281474976710656 * (y / 256 ^ 6 % 256) + 72057594037927936 * (y / 256 ^ 7 % 256) = y % 2 ^ 64 := by
  simp only [Nat.reducePow]
  omega
theorem four_bytes (y : Nat) : y / 256 ^ 0 % 256 + 256 * (y / 256 ^ 1 % 256) + 65536 * (y / 256 ^ 2 % 256) + 16777216 * (y / 256 ^ 3 % 256) = y % 2 ^ 32 := by
  simp only [Nat.reducePow]
  omega

theorem meets112 (w : World) (b o b1 o1 x : Nat) (hlt : b < w.heap.size) (hroom : RoomAt w b o) (hx : BytesAt w b1 o1 fun k => by8 k x) (hxl : x < 2 ^ 224) :
    Meets Try.prog 112 #[ptrTo b o, ptrTo b1 o1] w fun _ w' => Below w.heap.size (w.setCells b o (digsV x)) w' := by
  refine meets_of_calls Try.func112 (by kernel_rfl) (by kernel_rfl) ?_
  let β : Places := fun r => if r = 0 then (b, o) else (b1, o1)
  refine calls_brief (tabW_ok) run112 Try.func112 Try.ntmps112 (res := none) ⟨.inl rfl, Try.results112⟩ (by decide +kernel) (by decide +kernel) (by decide +kernel) (by decide) (by decide) (fun i => by8 i x) β
    (vals := [ptrTo b o, ptrTo b1 o1]) (fun s hs => ⟨⟨rfl, lt02⟩, ⟨rfl, lt12⟩, trivial⟩)
    (fun s hs => ⟨lt02, any4_row rfl hroom, lt12, b28_row rfl hx (fun k hk => by rw [Nat.zero_add]; exact hs k hk), trivial⟩) ?_ ?_ (fun r q _ _ h => by cases h) (fun _ _ _ i b h => by cases h) ?_
  · intro r l hl hr
    have h0 : r < 1 := of_decide_eq_true hr
    have : r = 0 := by omega
    subst this
    cases hl
    exact any4_frz rfl hroom
  · intro r _
    show (if r = 0 then (b, o) else (b1, o1)).1 < _
    split
    · exact hlt
    · exact World.block_lt_of_cell? w _ (hx 0 (by decide)).1
  · intro s hs hH st' β' a' w' _ hag _ hbe
    have hb : ∀ k, k < 28 → s k < 256 := fun k hk => by rw [hs k hk]; exact by8_lt k x
    obtain ⟨h0, h1, h2, h3⟩ := holds112 hH (hb 0 (by decide)) (hb 1 (by decide)) (hb 2 (by decide)) (hb 3 (by decide)) (hb 4 (by decide)) (hb 5 (by decide)) (hb 6 (by decide)) (hb 7 (by decide))
      (hb 8 (by decide)) (hb 9 (by decide)) (hb 10 (by decide)) (hb 11 (by decide)) (hb 12 (by decide)) (hb 13 (by decide)) (hb 14 (by decide)) (hb 15 (by decide))
      (hb 16 (by decide)) (hb 17 (by decide)) (hb 18 (by decide)) (hb 19 (by decide)) (hb 20 (by decide)) (hb 21 (by decide)) (hb 22 (by decide)) (hb 23 (by decide))
      (hb 24 (by decide)) (hb 25 (by decide)) (hb 26 (by decide)) (hb 27 (by decide))
    have at' : ∀ j i, 8 * j + i < 28 → s (8 * j + i) = x / 2 ^ (64 * j) / 256 ^ i % 256 := fun j i h => by rw [hs _ h]; exact by8_at j i x
    have d : s 58 = dg 0 x ∧ s 65 = dg 1 x ∧ s 72 = dg 2 x ∧ s 75 = dg 3 x := by
      refine ⟨?_, ?_, ?_, ?_⟩
      · rw [h0]
        refine Eq.trans ?_ (eight_bytes (x / 2 ^ (64 * 0)))
        rw [at' 0 0 (by decide), at' 0 1 (by decide), at' 0 2 (by decide), at' 0 3 (by decide), at' 0 4 (by decide), at' 0 5 (by decide), at' 0 6 (by decide), at' 0 7 (by decide)]
      · rw [h1]
        refine Eq.trans ?_ (eight_bytes (x / 2 ^ (64 * 1)))
        rw [at' 1 0 (by decide), at' 1 1 (by decide), at' 1 2 (by decide), at' 1 3 (by decide), at' 1 4 (by decide), at' 1 5 (by decide), at' 1 6 (by decide), at' 1 7 (by decide)]
      · rw [h2]
        refine Eq.trans ?_ (eight_bytes (x / 2 ^ (64 * 2)))
        rw [at' 2 0 (by decide), at' 2 1 (by decide), at' 2 2 (by decide), at' 2 3 (by decide), at' 2 4 (by decide), at' 2 5 (by decide), at' 2 6 (by decide), at' 2 7 (by decide)]
      · rw [h3]
        have e : dg 3 x = x / 2 ^ (64 * 3) % 2 ^ 32 := by
          unfold dg
          have hy : x / 2 ^ (64 * 3) < 2 ^ 32 := Nat.div_lt_of_lt_mul (by rw [← Nat.pow_add]; exact hxl)
          rw [Nat.mod_eq_of_lt hy, Nat.mod_eq_of_lt (Nat.lt_of_lt_of_le hy (Nat.pow_le_pow_right (by decide) (by decide)))]
        rw [e]
        refine Eq.trans ?_ (four_bytes (x / 2 ^ (64 * 3)))
        rw [at' 3 0 (by decide), at' 3 1 (by decide), at' 3 2 (by decide), at' 3 3 (by decide)]
    refine ⟨_, rfl, ?_⟩
    rw [out4_digs (β := β') (hag 0 (by show 0 < 2; decide)) d] at hbe
    exact hbe

def bytePrims : List (Nat × Prim) := elemPrims0 ++ [(99, .finv), (123, .frm), (124, .tob), (111, .rev), (112, .frb), (113, .tom), (114, .cmpB)]
theorem tabB_ok (b : Bool) : (tabOf b bytePrims).Ok Try.prog := tab_ok _ _ fun f p h => by
  simp only [bytePrims, elemPrims0, List.cons_append, List.nil_append, List.mem_cons, List.not_mem_nil, or_false, Prod.mk.injEq] at h
  rcases h with h | h | h | h | h | h | h | h | h | h | h | h | h | h <;> obtain ⟨rfl, rfl⟩ := h
  · exact meets89
  · exact meets88
  · exact meets90
  · exact meets92
  · exact meets93
  · exact meets77
  · exact meets105
  · exact meets99
  · exact meets123
  · exact meets124
  · exact meets111
  · exact meets112
  · exact meets113
  · exact meets114
end P224
