/- The sum of two numbers of bytes: its contract. -/
import Derived.Test.YtccmmkgiamcgeaaGV13
set_option linter.all false
namespace P224
open Go Go.RowKit Go.Proofs
set_option maxRecDepth 100000
set_option linter.unusedVariables false

/-- The number of digits below 256, the lowest first. -/
def lowN (f : Nat → Nat) : Nat → Nat
  | 0 => 0
  | j + 1 => lowN f j + f j * 256 ^ j
theorem lowN_shift (f : Nat → Nat) : ∀ n, lowN f (n + 1) = f 0 + 256 * lowN (fun t => f (t + 1)) n
  | 0 => by simp [lowN]
  | n + 1 => by
    rw [lowN, lowN_shift f n, lowN, Nat.mul_add, Nat.pow_succ, Nat.add_assoc]
    congr 2
    rw [Nat.mul_comm (256 ^ n) 256, ← Nat.mul_assoc, Nat.mul_comm (f (n + 1)) 256, Nat.mul_assoc]
theorem lowN_congr {f g : Nat → Nat} : ∀ n, (∀ t, t < n → f t = g t) → lowN f n = lowN g n
  | 0, _ => rfl
  | n + 1, h => by rw [lowN, lowN, lowN_congr n fun t ht => h t (by omega), h n (Nat.lt_succ_self n)]
theorem ofBytes_lowN (g : Nat → Nat) : ∀ n, ofBytes ((List.range n).map g) = lowN (fun t => g (n - 1 - t)) n
  | 0 => rfl
  | n + 1 => by
    rw [List.range_succ, List.map_append, List.map_singleton, ofBytes_snoc, ofBytes_lowN g n, lowN_shift, Nat.add_comm]
    congr 1
    rw [lowN_congr n fun t ht => ?_]
    show g (n - 1 - t) = g (n + 1 - 1 - (t + 1))
    congr 1
    omega
theorem lowN_lt {f : Nat → Nat} : ∀ n, (∀ t, t < n → f t < 256) → lowN f n < 256 ^ n
  | 0, _ => Nat.one_pos
  | n + 1, h => by
    have h1 := lowN_lt n fun t ht => h t (by omega)
    have h2 := h n (Nat.lt_succ_self n)
    rw [lowN, Nat.pow_succ]
    have h3 : f n * 256 ^ n ≤ 255 * 256 ^ n := Nat.mul_le_mul_right _ (by omega)
    omega
theorem lowN_digit {f : Nat → Nat} : ∀ (n : Nat), (∀ t, t < n → f t < 256) → ∀ t, t < n → by8 t (lowN f n) = f t
  | 0, _, t, ht => by omega
  | n + 1, h, 0, ht => by
    rw [lowN_shift, by8, Nat.pow_zero, Nat.div_one, Nat.add_mul_mod_self_left]
    exact Nat.mod_eq_of_lt (h 0 (by omega))
  | n + 1, h, t + 1, ht => by
    have e : lowN f (n + 1) / 256 = lowN (fun t => f (t + 1)) n := by
      rw [lowN_shift, Nat.add_mul_div_left _ _ (by decide : 0 < 256), Nat.div_eq_of_lt (h 0 (by omega)), Nat.zero_add]
    have := lowN_digit (f := fun t => f (t + 1)) n (fun u hu => h (u + 1) (by omega)) t (by omega)
    rw [← e] at this
    rw [by8, Nat.pow_succ, Nat.mul_comm, ← Nat.div_div_eq_div_mul]
    exact this

/-- The numbers of the run, byte by byte. -/
def cw47 (j : Nat) : Wd := if j = 0 then .c 0 else .v (55 + 6 * j)
def ex47 : Nat → List Ex
  | 0 => []
  | j + 1 => .op 5 [.c 8, .v (59 + 6 * j)] :: .low 8 (.v (59 + 6 * j)) :: .add 64 (cw47 j) (.v (58 + 6 * j)) :: .add 64 (.v (56 + 6 * j)) (.v (57 + 6 * j)) :: .low 64 (.v (55 - j)) :: .low 64 (.v (27 - j)) :: ex47 j
def carry47 (s : Nums) (j : Nat) : Nat := (cw47 j).val s
theorem law47 {s : Nums} (hk : ∀ i, i < 56 → s i < 256) : ∀ j, j ≤ 28 → Holds s (56 + 6 * j) (ex47 j) → carry47 s j ≤ 1 ∧ (∀ t, t < j → s (60 + 6 * t) < 256) ∧
    lowN (fun t => s (60 + 6 * t)) j + carry47 s j * 256 ^ j = lowN (fun t => s (27 - t)) j + lowN (fun t => s (55 - t)) j
  | 0, _, _ => ⟨Nat.zero_le _, fun t ht => by omega, by show 0 + 0 * 1 = 0 + 0; rfl⟩
  | j + 1, hj, h => by
    have e : 56 + 6 * (j + 1) = 56 + 6 * j + 6 := by omega
    rw [e] at h
    obtain ⟨h5, h4, h3, h2, h1, h0, hr⟩ := h
    obtain ⟨c1, c2, c3⟩ := law47 hk j (by omega) hr
    have e0 : s (56 + 6 * j) = s (27 - j) % 2 ^ 64 := h0
    have e1 : s (57 + 6 * j) = s (55 - j) % 2 ^ 64 := by have := h1; rwa [show 56 + 6 * j + 6 - 1 - 1 - 1 - 1 - 1 = 57 + 6 * j by omega] at this
    have e2 : s (58 + 6 * j) = (s (56 + 6 * j) + s (57 + 6 * j)) % 2 ^ 64 := by have := h2; rwa [show 56 + 6 * j + 6 - 1 - 1 - 1 - 1 = 58 + 6 * j by omega] at this
    have e3 : s (59 + 6 * j) = (carry47 s j + s (58 + 6 * j)) % 2 ^ 64 := by have := h3; rwa [show 56 + 6 * j + 6 - 1 - 1 - 1 = 59 + 6 * j by omega] at this
    have e4 : s (60 + 6 * j) = s (59 + 6 * j) % 2 ^ 8 := by have := h4; rwa [show 56 + 6 * j + 6 - 1 - 1 = 60 + 6 * j by omega] at this
    have e5 : s (61 + 6 * j) = sarN 8 (s (59 + 6 * j)) := by have := h5; rwa [show 56 + 6 * j + 6 - 1 = 61 + 6 * j by omega] at this
    have k1 := hk (27 - j) (by omega)
    have k2 := hk (55 - j) (by omega)
    rw [Nat.mod_eq_of_lt (by omega)] at e0 e1
    rw [e0, e1, Nat.mod_eq_of_lt (by omega)] at e2
    rw [e2, Nat.mod_eq_of_lt (by omega)] at e3
    have e5' : s (61 + 6 * j) = s (59 + 6 * j) / 2 ^ 8 := by rw [e5, sarN, if_pos (by omega)]
    have ec : carry47 s (j + 1) = s (61 + 6 * j) := by
      unfold carry47 cw47
      rw [if_neg (by omega)]
      show s (55 + 6 * (j + 1)) = _
      congr 1
      omega
    refine ⟨by rw [ec, e5']; omega, fun t ht => ?_, ?_⟩
    · by_cases h : t < j
      · exact c2 t h
      · have : t = j := by omega
        subst this
        rw [e4]
        exact Nat.mod_lt _ (by decide)
    · rw [lowN, lowN, lowN, ec]
      have m : s (60 + 6 * j) + 256 * s (61 + 6 * j) = carry47 s j + (s (27 - j) + s (55 - j)) := by rw [e4, e5', ← e3]; omega
      have m2 : s (60 + 6 * j) * 256 ^ j + s (61 + 6 * j) * 256 ^ (j + 1) = carry47 s j * 256 ^ j + (s (27 - j) * 256 ^ j + s (55 - j) * 256 ^ j) := by
        rw [← Nat.add_mul, ← Nat.add_mul, ← m, Nat.add_mul, Nat.pow_succ, Nat.mul_comm (256 ^ j) 256, ← Nat.mul_assoc, Nat.mul_comm 256 (s (61 + 6 * j))]
      omega

def fix47 : Fix := fixD 42 2 [] [] []
def row47 : List A0 := (List.range 28).map fun i => .num .u8 (60 + 6 * (27 - i))
def st47 : St := startSt [.one (.sl 0 0 28), .one (.sl 1 0 28)] [(0, numsFrom .u8 0 28), (1, numsFrom .u8 28 28)] 56 2
def br47 : BriefR := ⟨.ret, 225, .feq (.v 223) (.c 0) :: ex47 28, [], [.one (.slc 2 0 28 28), .one (.bl 224)], [some row47]⟩
theorem run47 : briefR (tabX true pointPrims xm4) Try.f47 [2] (runF (tabX true pointPrims xm4) fix47 3000 Try.f47 st47) = some br47 := by kernel_rfl

/-- A new slice of twenty-eight bytes. -/
def NewK (w : World) (v : Value) (w' : World) (ls : List Nat) : Prop :=
  ∃ b, w.heap.size ≤ b ∧ b < w'.heap.size ∧ v = .slice (some ⟨b, 0, none⟩) 28 28 ∧ Is28 ls ∧ (∀ (i : Nat) x, ls[i]? = some x → w'.cell? ⟨b, i, none⟩ = some (.int .u8 (x : Int))) ∧ (∀ k, k < 28 → w'.frozen? ⟨b, k, none⟩ = false) ∧ Below w.heap.size w w'
def OutMore (w : World) (S : Nat) (r : Value) (w' : World) : Prop := ∃ v ls, r = .tuple #[v, .bool (decide (S < 2 ^ 224))] ∧ NewK w v w' ls ∧ ofBytes ls = S % 2 ^ 224

theorem meets47 (w : World) (v1 v2 : Value) (ks ms : List Nat) (h1 : KAt w v1 ks) (h2 : KAt w v2 ms) : Meets Try.prog 47 #[v1, v2] w (OutMore w (ofBytes ks + ofBytes ms)) := by
  refine meets_of_calls Try.func47 (by kernel_rfl) (by kernel_rfl) ?_
  obtain ⟨b0, o0, c0, hv0, hc0, hlen0, hk0⟩ := h1
  obtain ⟨b1, o1, c1, hv1, hc1, hlen1, hk1⟩ := h2
  subst hv0
  subst hv1
  have kget0 : ∀ m, m < 28 → w.cell? ⟨b0, o0 + m, none⟩ = some (.int .u8 ((ks.getD m 0 : Nat) : Int)) ∧ ks.getD m 0 < 256 := fun m hm => hk0 m _ (by rw [List.getD_eq_getElem?_getD, List.getElem?_eq_getElem (by omega)]; rfl)
  have kget1 : ∀ m, m < 28 → w.cell? ⟨b1, o1 + m, none⟩ = some (.int .u8 ((ms.getD m 0 : Nat) : Int)) ∧ ms.getD m 0 < 256 := fun m hm => hk1 m _ (by rw [List.getD_eq_getElem?_getD, List.getElem?_eq_getElem (by omega)]; rfl)
  have lt0 : b0 < w.heap.size := World.block_lt_of_cell? w _ (kget0 0 (by decide)).1
  have lt1 : b1 < w.heap.size := World.block_lt_of_cell? w _ (kget1 0 (by decide)).1
  let s0 : Nums := fun i => if i < 28 then ks.getD i 0 else ms.getD (i - 28) 0
  have sk0 : ∀ s : Nums, (∀ i, i < 56 → s i = s0 i) → ∀ m, m < 28 → s m = ks.getD m 0 := fun s hs m hm => by
    rw [hs m (by omega)]
    show (if m < 28 then _ else _) = _
    rw [if_pos hm]
  have sk1 : ∀ s : Nums, (∀ i, i < 56 → s i = s0 i) → ∀ m, m < 28 → s (28 + m) = ms.getD m 0 := fun s hs m hm => by
    rw [hs (28 + m) (by omega)]
    show (if 28 + m < 28 then _ else ms.getD (28 + m - 28) 0) = _
    rw [if_neg (by omega), show 28 + m - 28 = m by omega]
  have law : ∀ s : Nums, (∀ i, i < 56 → s i = s0 i) → Holds s 225 (.feq (.v 223) (.c 0) :: ex47 28) → (∀ i, i < 28 → s (60 + 6 * (27 - i)) < 256) ∧ s 223 ≤ 1 ∧ s 224 = (if s 223 = 0 then 1 else 0) ∧ lowN (fun t => s (60 + 6 * t)) 28 + s 223 * 256 ^ 28 = ofBytes ks + ofBytes ms := fun s hs hH => by
    obtain ⟨h224, hr⟩ := hH
    obtain ⟨c1, c2, c3⟩ := law47 (s := s) (fun i hi => by
      by_cases h : i < 28
      · rw [sk0 s hs i h]; exact (kget0 i h).2
      · have := sk1 s hs (i - 28) (by omega)
        rw [show 28 + (i - 28) = i by omega] at this
        rw [this]; exact (kget1 _ (by omega)).2) 28 (Nat.le_refl _) hr
    have ek : lowN (fun t => s (27 - t)) 28 = ofBytes ks := by
      rw [← range_getD hlen0, ofBytes_lowN]
      exact lowN_congr 28 fun t ht => sk0 s hs (27 - t) (by omega)
    have em : lowN (fun t => s (55 - t)) 28 = ofBytes ms := by
      rw [← range_getD hlen1, ofBytes_lowN]
      refine lowN_congr 28 fun t ht => ?_
      have := sk1 s hs (27 - t) (by omega)
      rw [show 28 + (27 - t) = 55 - t by omega] at this
      exact this
    rw [ek, em] at c3
    exact ⟨fun i hi => c2 (27 - i) (by omega), c1, h224, c3⟩
  refine calls_briefR (F := fix47) (tabX_ok pointPrims_ok xm4_ok) run47 Try.func47 Try.ntmps47 rfl (by decide +kernel) (by decide +kernel) (by decide +kernel) (show 2 ≤ 42 by decide) (show 2 < 4095 by decide) s0 (fun r => if r = 0 then (b0, o0) else (b1, o1))
    (vals := [_, _]) (fun s hs => ⟨⟨c0, hc0, rfl, show 0 < 2 by decide⟩, ⟨c1, hc1, rfl, show 1 < 2 by decide⟩, trivial⟩) (fun s hs => ⟨show 0 < 2 by decide, row_nums 28 0 0 (fun m hm => by
      rw [Nat.zero_add, sk0 s hs m hm]
      exact kget0 m hm), show 1 < 2 by decide, row_nums 28 28 0 (fun m hm => by
      rw [Nat.zero_add, sk1 s hs m hm]
      exact kget1 m hm), trivial⟩) (fun r l hl hr => by cases hr) (fun r _ => (by show (if r = 0 then (b0, o0) else (b1, o1)).1 < _; split; exact lt0; exact lt1)) (fun r q _ _ h => by cases h) ?_ ?_
  · intro s hs hH i b hb
    cases hb
  · intro s hs hH st' β' a' w' v hv hm hag hr hbe
    obtain ⟨q1, q2, q3, q4⟩ := law s hs hH
    injection (show [lookup 2 st'.mem] = [some row47] from hm) with hm
    obtain ⟨vs, rfl, hl⟩ := hv
    obtain ⟨x, y, rfl, hx, hy⟩ : ∃ x y, vs = [x, y] ∧ (AV.one (.slc 2 0 28 28)).rep s β' st'.nr x ∧ (AV.one (.bl 224)).rep s β' st'.nr y := by
      match vs, hl with
      | [x, y], ⟨hx, hy, _⟩ => exact ⟨x, y, rfl, hx, hy⟩
    have hy1 : y = .bool (s 224 == 1) := hy.1
    have hx1 : x = .slice (some (at_ β' 2 0)) 28 28 := hx.1
    obtain ⟨p1, hc⟩ := hr.mem 2 _ hm
    obtain ⟨f1, f2, f3⟩ := hr.fresh 2 (show 2 ≤ 2 by decide) p1
    rw [at_, f3] at hx1
    let ls : List Nat := (List.range 28).map fun i => s (60 + 6 * (27 - i))
    have hls : ofBytes ls = lowN (fun t => s (60 + 6 * t)) 28 := by
      rw [ofBytes_lowN]
      exact lowN_congr 28 fun t ht => by rw [show 27 - (28 - 1 - t) = t by omega]
    have hlt : ofBytes ls < 2 ^ 224 := by
      rw [hls]
      exact lowN_lt 28 fun t ht => by have := q1 (27 - t) (by omega); rwa [show 27 - (27 - t) = t by omega] at this
    rw [← hls] at q4
    have hp : (256 : Nat) ^ 28 = 2 ^ 224 := by decide +kernel
    rw [hp] at q4
    refine ⟨_, rfl, x, ls, ?_, ⟨(β' 2).1, f1, f2, hx1, ⟨by simp [ls], fun z hz => ?_⟩, fun i z hz => ?_, fun k hk => ?_, hbe⟩, ?_⟩
    · rw [hy1, q3]
      have h01 : s 223 = 0 ∨ s 223 = 1 := by omega
      rcases h01 with h | h
      · rw [h, Nat.zero_mul, Nat.add_zero] at q4
        rw [if_pos h, decide_eq_true (by rw [← q4]; exact hlt)]
        rfl
      · rw [h, Nat.one_mul] at q4
        rw [if_neg (by omega), decide_eq_false (by rw [← q4]; exact Nat.not_lt.2 (Nat.le_add_left _ _))]
        rfl
    · obtain ⟨i, hi, rfl⟩ := List.mem_map.1 hz
      exact q1 i (List.mem_range.1 hi)
    · have hi : i < 28 := by
        have := (List.getElem?_eq_some_iff.1 hz).1
        simpa [ls] using this
      have e1 : ls[i]? = some (s (60 + 6 * (27 - i))) := by
        show ((List.range 28).map _)[i]? = _
        rw [List.getElem?_map, List.getElem?_range hi]
        rfl
      rw [e1] at hz
      cases hz
      have e2 : row47[i]? = some (.num .u8 (60 + 6 * (27 - i))) := by
        show ((List.range 28).map _)[i]? = _
        rw [List.getElem?_map, List.getElem?_range hi]
        rfl
      obtain ⟨u, g1, g2⟩ := hc i _ e2
      rw [at_, f3, Nat.zero_add] at g1
      rw [g1, g2.1]
    · have := hr.frz 2 _ hm (.inl (show 2 ≤ 2 by decide)) k (by show k < row47.length; rw [row47, List.length_map, List.length_range]; exact hk)
      rw [at_, f3, Nat.zero_add] at this
      exact this
    · have h01 : s 223 = 0 ∨ s 223 = 1 := by omega
      rcases h01 with h | h
      · rw [h, Nat.zero_mul, Nat.add_zero] at q4
        rw [← q4, Nat.mod_eq_of_lt hlt]
      · rw [h, Nat.one_mul] at q4
        rw [← q4, Nat.add_mod_right, Nat.mod_eq_of_lt hlt]
end P224
/- The sum of two numbers of bytes, as a call that the executor knows. -/
namespace P224
open Go Go.RowKit Go.Proofs
set_option maxRecDepth 100000
set_option linter.unusedVariables false

/-- The numbers of the sum's bytes. -/
def bysE (n : Nat) (l : List Ex) : Nat → List Ex
  | 0 => l
  | i + 1 => .op 32 [.v n, .c (27 - i)] :: bysE n l i
theorem bysE_len (n : Nat) (l : List Ex) : ∀ i, (bysE n l i).length = i + l.length
  | 0 => (Nat.zero_add _).symm
  | i + 1 => by rw [bysE, List.length_cons, bysE_len n l i]; omega
theorem bysE_app (n : Nat) (l : List Ex) : ∀ i, bysE n l i = bysE n [] i ++ l
  | 0 => rfl
  | i + 1 => by rw [bysE, bysE, bysE_app n l i]; rfl
theorem bysE_holds {s : Nums} {n b : Nat} {l : List Ex} : ∀ i, Holds s (b + i) (bysE n l i) → (∀ k, k < i → s (b + k) = by8 (27 - k) (s n)) ∧ Holds s b l
  | 0, h => ⟨fun k hk => by omega, h⟩
  | i + 1, h => by
    obtain ⟨h1, h2⟩ := h
    obtain ⟨g1, g2⟩ := bysE_holds (b := b) i h2
    refine ⟨fun k hk => ?_, g2⟩
    by_cases hh : k < i
    · exact g1 k hh
    · have : k = i := by omega
      subst this
      exact h1
def x47 : X := fun F st args => match args with
  | [.one a, .one b] => match a.asSl, b.asSl with
    | some (r1, o1, 28), some (r2, o2, 28) => match wordsAt .u8 st.mem r1 o1 28, wordsAt .u8 st.mem r2 o2 28 with
      | some ws, some vs => some (.tup [.one (.slc st.nr 0 28 28), .one (.bl (st.nx + 3))], { st with mem := (st.nr, numsFrom .u8 (st.nx + 4) 28) :: st.mem, nr := st.nr + 1, nx := st.nx + 32, exs := bysE (st.nx + 2) (.op 31 [.v st.nx, .v (st.nx + 1)] :: .op 30 [.v st.nx, .v (st.nx + 1)] :: .op 2 vs :: .op 2 ws :: st.exs) 28 })
      | _, _ => none
    | _, _ => none
  | _ => none
theorem kat_of {s : Nums} {β : Places} {F : Fix} {w0 : World} {st : St} {a : Act} {w : World} (hr : Rel F s β w0 st a w) {x : A0} {v : Value} {r o : Nat} {ws : List Wd} (hk : x.asSl = some (r, o, 28)) (hv : x.rep s β st.nr v) (hw : wordsAt .u8 st.mem r o 28 = some ws) : KAt w v (ws.map (Wd.val s)) := by
  obtain ⟨⟨c, hva, hca⟩, _⟩ := asSl_rep hk hv
  obtain ⟨l1, l2, l3⟩ := wordsAt_rep hr hw
  exact ⟨_, _, c, hva, hca, by rw [List.length_map, l1], fun i x hx => by
    rw [List.getElem?_map] at hx
    cases hj : ws[i]? with
    | none => rw [hj] at hx; cases hx
    | some y =>
      rw [hj] at hx
      cases hx
      obtain ⟨g1, g2⟩ := l3 i y hj
      rw [at_, ← Nat.add_assoc] at g1
      exact ⟨g1, g2⟩⟩
theorem list28 {ls : List Nat} (h : Is28 ls) (i : Nat) (hi : i < 28) : ls[i]? = some (by8 (27 - i) (ofBytes ls)) := by
  have e := range_getD h.1
  have h1 : ofBytes ls = lowN (fun t => ls.getD (27 - t) 0) 28 := by
    rw [← e, ofBytes_lowN, e]
  have h2 : ∀ t, t < 28 → ls.getD (27 - t) 0 < 256 := fun t ht => by
    rw [List.getD_eq_getElem?_getD, List.getElem?_eq_getElem (by rw [h.1]; omega)]
    exact h.2 _ (List.getElem_mem _)
  have h3 := lowN_digit 28 h2 (27 - i) (by omega)
  rw [h1, h3, show 27 - (27 - i) = i by omega, List.getD_eq_getElem?_getD, List.getElem?_eq_getElem (by rw [h.1]; omega)]
  rfl
theorem x47_ok : XOk Try.prog 47 x47 := by
  refine ⟨fun {F st st' args av} h => ?_, fun {s β F w0 st st' a w args vs av} hr h hargs hH => ?_⟩
  · unfold x47 at h
    split at h
    · split at h
      · split at h
        · rename_i ws vs _ _
          cases h
          refine ⟨⟨bysE (st.nx + 2) [] 28 ++ [.op 31 [.v st.nx, .v (st.nx + 1)], .op 30 [.v st.nx, .v (st.nx + 1)], .op 2 vs, .op 2 ws], ?_, ?_⟩, Nat.le_succ _⟩
          · show bysE _ _ 28 = _
            rw [bysE_app, List.append_assoc]
            rfl
          · rw [List.length_append, bysE_len]
            rfl
        · cases h
      · cases h
    · cases h
  · unfold x47 at h
    split at h
    · rename_i xa xb
      split at h
      · rename_i r1 o1 r2 o2 ha hb
        split at h
        · rename_i ws vs hw hv
          cases h
          obtain ⟨u, v, rfl, hu, hv'⟩ := avs2 hargs
          have K1 := kat_of hr ha hu hw
          have K2 := kat_of hr hb hv' hv
          obtain ⟨g1, h31, h30, h2v, h2w, _⟩ := bysE_holds (s := s) (n := st.nx + 2) (b := st.nx + 4) 28 hH
          have e0 : s st.nx = ofBytes (ws.map (Wd.val s)) := h2w
          have e1 : s (st.nx + 1) = ofBytes (vs.map (Wd.val s)) := h2v
          have e2 : s (st.nx + 2) = (s st.nx + s (st.nx + 1)) % 2 ^ 224 := h30
          have e3 : s (st.nx + 3) = if s st.nx + s (st.nx + 1) < 2 ^ 224 then 1 else 0 := h31
          have hme := meets47 w u v _ _ K1 K2
          intro o' a' next Q hn
          refine hme o' a' next Q fun r w' ⟨v', ls, hr', ⟨b, n1, n2, n3, n4, n5, n6, n7⟩, hls⟩ => hn _ _ ?_
          rw [← e0, ← e1] at hr' hls
          rw [← e2] at hls
          obtain ⟨β', q1, q2, q3⟩ := (hr.kept n7).add (Nat.le_trans hr.size_le n1) n2 (hr.far_from (B := 0) n1) (l := numsFrom .u8 (st.nx + 4) 28) (fun j z hz => by
            obtain ⟨rfl, hj⟩ := numsFrom_get hz
            have hx := list28 n4 j hj
            refine ⟨_, n5 j _ hx, fun _ _ _ => ?_⟩
            rw [hls, ← g1 j hj]
            refine ⟨rfl, ?_⟩
            rw [g1 j hj]
            exact Nat.mod_lt _ (by decide)) (fun j hj => n6 j (by rwa [numsFrom_len] at hj))
          refine ⟨β', q1, ⟨[_, _], hr', ⟨by rw [at_, q2]; exact n3, Nat.lt_succ_self _⟩, ⟨?_, ?_⟩, trivial⟩, q3.nums _ _⟩
          · rw [e3]
            by_cases h : s st.nx + s (st.nx + 1) < 2 ^ 224
            · rw [if_pos h, decide_eq_true h]; rfl
            · rw [if_neg h, decide_eq_false h]; rfl
          · rw [e3]
            split <;> decide
        · cases h
      · cases h
    · cases h
noncomputable def xt2 : List (Nat × X) := (47, x47) :: xt1
theorem xt2_ok : XsOk xt2 := xcons_ok x47_ok xt1_ok
end P224
/- Laws that add two numbers of bytes first: where the slice is too long, the sum too great, or the slice no point. -/
namespace P224
open Go Go.RowKit Go.Proofs
set_option maxRecDepth 100000
set_option linter.unusedVariables false

theorem bytes_back28 {s : Nums} {n b : Nat} (h : ∀ i, i < 28 → s (b + i) = by8 (27 - i) (s n)) (hlt : s n < 2 ^ 224) : ofBytes ((List.range 28).map fun i => s (b + i)) = s n := by
  rw [ofBytes_lowN]
  have e : ∀ m (x : Nat), lowN (fun t => by8 t x) m = x % 256 ^ m := fun m x => by
    induction m with
    | zero => simp [lowN, Nat.mod_one]
    | succ m ih =>
      rw [lowN, ih, by8, Nat.pow_succ, Nat.mod_mul]
      rw [Nat.mul_comm]
  rw [lowN_congr (g := fun t => by8 t (s n)) 28 fun t ht => by
    show s (b + (28 - 1 - t)) = _
    rw [h _ (by omega), show 27 - (28 - 1 - t) = t by omega], e, Nat.mod_eq_of_lt]
  rw [show (256 : Nat) ^ 28 = 2 ^ 224 by decide +kernel]
  exact hlt
theorem cases28 {i : Nat} (h : i < 28) : i = 0 ∨ i = 1 ∨ i = 2 ∨ i = 3 ∨ i = 4 ∨ i = 5 ∨ i = 6 ∨ i = 7 ∨ i = 8 ∨ i = 9 ∨ i = 10 ∨ i = 11 ∨ i = 12 ∨ i = 13 ∨ i = 14 ∨ i = 15 ∨ i = 16 ∨ i = 17 ∨ i = 18 ∨ i = 19 ∨ i = 20 ∨ i = 21 ∨ i = 22 ∨ i = 23 ∨ i = 24 ∨ i = 25 ∨ i = 26 ∨ i = 27 := by omega

def moreE (n0 : Nat) (ws vs : List Wd) : List Ex := bysE (n0 + 3) [.op 31 [.v (n0 + 1), .v (n0 + 2)], .op 30 [.v (n0 + 1), .v (n0 + 2)], .op 2 vs, .op 2 ws, lenE 0] 28
theorem moreE_ok {s : Nums} {n0 : Nat} {ws vs : List Wd} (h : Holds s (n0 + 33) (moreE n0 ws vs)) : s (n0 + 4) = (if ofBytes (ws.map (Wd.val s)) + ofBytes (vs.map (Wd.val s)) < 2 ^ 224 then 1 else 0) ∧ s n0 = (lenE 0).val s := by
  obtain ⟨_, h31, _, h2v, h2w, h0, _⟩ := bysE_holds (b := n0 + 5) 28 h
  have e1 : s (n0 + 1) = ofBytes (ws.map (Wd.val s)) := h2w
  have e2 : s (n0 + 2) = ofBytes (vs.map (Wd.val s)) := h2v
  have e3 : s (n0 + 4) = if s (n0 + 1) + s (n0 + 2) < 2 ^ 224 then 1 else 0 := h31
  exact ⟨by rw [e3, e1, e2], h0⟩
/-- And whether the sum is too great. -/
def moreF (n0 : Nat) (ws vs : List Wd) : List Ex := .feq (.v (n0 + 4)) (.c 0) :: moreE n0 ws vs
theorem moreF_ok {s : Nums} {n0 : Nat} {ws vs : List Wd} (h : Holds s (n0 + 34) (moreF n0 ws vs)) : s (n0 + 33) = (if ofBytes (ws.map (Wd.val s)) + ofBytes (vs.map (Wd.val s)) < 2 ^ 224 then 0 else 1) ∧ s n0 = (lenE 0).val s := by
  obtain ⟨h1, h2⟩ := h
  obtain ⟨g1, g2⟩ := moreE_ok h2
  have e : s (n0 + 33) = if s (n0 + 4) = 0 then 1 else 0 := h1
  refine ⟨?_, g2⟩
  rw [e, g1]
  split <;> rfl
theorem law_more {g : FuncId} {fn : Func} {nt : Nat} {T : Tab} (hT : T.Ok Try.prog) {n0 : Nat} (h4 : 4 ≤ n0) {ex : List AV} {vals : List Value} (s1 : Nums) {ws vs : List Wd} {K M : Nat}
    (run1 : briefR T fn [] (runF T (fixN nt 1 [(n0, true)] [(0, (0, 3))]) 3000 fn (startSt (.one (.sy 0 0) :: ex) [] n0 1)) = some ⟨.ret, n0 + 1, [lenE 0], [], [.one (.lit (.bool true))], []⟩)
    (run2 : briefR T fn [] (runF T (fixN nt 1 [(n0, false), (n0 + 33, true)] [(0, (0, 3))]) 3000 fn (startSt (.one (.sy 0 0) :: ex) [] n0 1)) = some ⟨.ret, n0 + 34, moreF n0 ws vs, [], [.one (.lit (.bool true))], []⟩)
    (run3 : briefR T fn [] (runF T (fixN nt 1 [(n0, false), (n0 + 33, false), (3, false), (n0 + 34, true)] [(0, (0, 3))]) 3000 fn (startSt (.one (.sy 0 0) :: ex) [] n0 1)) = some ⟨.ret, n0 + 35, .feq (.v 3) (.c 0) :: moreF n0 ws vs, [], [.one (.lit (.bool true))], []⟩)
    (hf : Try.prog.funcs[g]? = some fn) (hnt : fn.ntmps = nt) (hsc1 : inScope (n0 + 1) [lenE 0] = true) (hsc2 : inScope (n0 + 34) (moreF n0 ws vs) = true) (hsc3 : inScope (n0 + 35) (.feq (.v 3) (.c 0) :: moreF n0 ws vs) = true) (hl : (AV.one (.sy 0 0) :: ex).length ≤ nt) (hl2 : (AV.one (.sy 0 0) :: ex).length < 4095)
    (hex : ∀ s β, (∀ i, 4 ≤ i → i < n0 → s i = s1 i) → ArgsOk s β 1 ex vals) (hK : ∀ s : Nums, (∀ i, 4 ≤ i → i < n0 → s i = s1 i) → ofBytes (ws.map (Wd.val s)) = K) (hM : ∀ s : Nums, (∀ i, 4 ≤ i → i < n0 → s i = s1 i) → ofBytes (vs.map (Wd.val s)) = M)
    {w : World} {v : Value} {b o n u d f : Nat} (h : Sl w v b o n u d f) (hbad : 2147483647 < n ∨ ¬ K + M < 2 ^ 224 ∨ f = 0) : Law g w (v :: vals) := by
  let s0 : Nums := fun i => if i = 0 then n else if i = 1 then u else if i = 2 then d else if i = 3 then f else s1 i
  have hs1 : ∀ s : Nums, (∀ i, i < n0 → s i = s0 i) → ∀ i, 4 ≤ i → i < n0 → s i = s1 i := fun s hs i h1 h2 => by
    rw [hs i h2]
    show (if i = 0 then n else if i = 1 then u else if i = 2 then d else if i = 3 then f else s1 i) = s1 i
    rw [if_neg (by omega), if_neg (by omega), if_neg (by omega), if_neg (by omega)]
  have hargs : ∀ s : Nums, (∀ i, i < n0 → s i = s0 i) → ArgsOk s (fun _ => (b, o)) 1 (.one (.sy 0 0) :: ex) (v :: vals) := fun s hs =>
    ⟨h.rep rfl (show 0 < 1 by decide) (hs 0 (by omega)) (hs 1 (by omega)) (hs 2 (by omega)), hex s _ (hs1 s hs)⟩
  have hnp : ∀ s : Nums, (∀ i, i < n0 → s i = s0 i) → ∀ r i j, findT r [(0, (0, 3))] = some (i, j) → r < 1 ∧ Flag w (b, o) (s i) (s j) := fun s hs r i j hh => by
    have := findT_mem hh
    simp only [List.mem_cons, List.not_mem_nil, or_false, Prod.mk.injEq] at this
    obtain ⟨rfl, rfl, rfl⟩ := this
    exact ⟨show 0 < 1 by decide, h.np (β := fun _ => (b, o)) (r := 0) rfl (hs 0 (by omega)) (hs 3 (by omega))⟩
  have hlen2 : (moreF n0 ws vs).length = 34 := by rw [moreF, List.length_cons, moreE, bysE_len]; rfl
  by_cases hlen : 2147483647 < n
  · refine calls_briefR (F := fixN nt 1 [(n0, true)] [(0, (0, 3))]) hT run1 hf hnt rfl hsc1 (show 1 ≤ n0 + 1 by omega) (show n0 + 1 - 1 = n0 by omega) hl hl2 s0 (fun _ => (b, o))
      (vals := v :: vals) hargs (fun s hs => trivial) (fun r l hl hr => by cases hr) (fun r _ => h.lt) (fun r q _ _ h => by cases h) ?_ ?_ hnp
    · intro s hs' hH i bb hb
      have e8 := len_gt hH.1 (hs' 0 (by omega)) h.n63
      rw [if_pos (show 2147483647 < s0 0 from hlen)] at e8
      obtain ⟨rfl, rfl⟩ := dec1 hb
      exact e8
    · intro s hs hH st' β' a' w' v' hv' hm hag hr hbe
      have hv2 : v' = .bool true := hv'
      exact ⟨by rw [hv2], hbe⟩
  by_cases hsum : K + M < 2 ^ 224
  · have hf0 : f = 0 := hbad.elim (fun h => absurd h hlen) fun h => h.elim (fun h => absurd hsum h) id
    refine calls_briefR (F := fixN nt 1 [(n0, false), (n0 + 33, false), (3, false), (n0 + 34, true)] [(0, (0, 3))]) hT run3 hf hnt rfl hsc3 (by show (moreF n0 ws vs).length + 1 ≤ n0 + 35; omega) (by show n0 + 35 - ((moreF n0 ws vs).length + 1) = n0; omega) hl hl2 s0 (fun _ => (b, o))
      (vals := v :: vals) hargs (fun s hs => trivial) (fun r l hl hr => by cases hr) (fun r _ => h.lt) (fun r q _ _ h => by cases h) ?_ ?_ hnp
    · intro s hs' hH i bb hb
      obtain ⟨h5, hH⟩ := hH
      obtain ⟨g1, g2⟩ := moreF_ok hH
      rw [hK s (hs1 s hs'), hM s (hs1 s hs'), if_pos hsum] at g1
      have e := len_gt g2 (hs' 0 (by omega)) h.n63
      rw [if_neg (show ¬ 2147483647 < s0 0 from hlen)] at e
      have e5 : s (n0 + 34) = if s 3 = 0 then 1 else 0 := h5
      have e3 : s 3 = 0 := (hs' 3 (by omega)).trans hf0
      rw [if_pos e3] at e5
      have := findT_mem (show findT i [(n0, false), (n0 + 33, false), (3, false), (n0 + 34, true)] = some bb from hb)
      simp only [List.mem_cons, List.not_mem_nil, or_false, Prod.mk.injEq] at this
      rcases this with ⟨rfl, rfl⟩ | ⟨rfl, rfl⟩ | ⟨rfl, rfl⟩ | ⟨rfl, rfl⟩
      · exact e
      · exact g1
      · exact e3
      · exact e5
    · intro s hs hH st' β' a' w' v' hv' hm hag hr hbe
      have hv2 : v' = .bool true := hv'
      exact ⟨by rw [hv2], hbe⟩
  · refine calls_briefR (F := fixN nt 1 [(n0, false), (n0 + 33, true)] [(0, (0, 3))]) hT run2 hf hnt rfl hsc2 (by show (moreF n0 ws vs).length ≤ n0 + 34; omega) (by show n0 + 34 - (moreF n0 ws vs).length = n0; omega) hl hl2 s0 (fun _ => (b, o))
      (vals := v :: vals) hargs (fun s hs => trivial) (fun r l hl hr => by cases hr) (fun r _ => h.lt) (fun r q _ _ h => by cases h) ?_ ?_ hnp
    · intro s hs' hH i bb hb
      obtain ⟨g1, g2⟩ := moreF_ok hH
      rw [hK s (hs1 s hs'), hM s (hs1 s hs'), if_neg hsum] at g1
      have e := len_gt g2 (hs' 0 (by omega)) h.n63
      rw [if_neg (show ¬ 2147483647 < s0 0 from hlen)] at e
      rcases dec2 hb with ⟨rfl, rfl⟩ | ⟨rfl, rfl⟩
      · exact e
      · exact g1
    · intro s hs hH st' β' a' w' v' hv' hm hag hr hbe
      have hv2 : v' = .bool true := hv'
      exact ⟨by rw [hv2], hbe⟩
end P224
