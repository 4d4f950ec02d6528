/- How a call of a function of words or elements is met by a run in brief: its start and its end, in lists. -/
import Derived.Test.YtccmmkgiamcgeaaGF4
set_option linter.all false
namespace P224
open Go Go.RowKit Go.Proofs
set_option maxRecDepth 100000

/-- The arguments are as the list says. -/
def ArgsOk (s : Nums) (β : Places) (n : Nat) : List AV → List Value → Prop
  | x :: l, v :: m => x.rep s β n v ∧ ArgsOk s β n l m
  | [], [] => True
  | _, _ => False
theorem ArgsOk.get {s : Nums} {β : Places} {n : Nat} : ∀ {l : List AV} {m : List Value}, ArgsOk s β n l m → m.length = l.length ∧ ∀ (j : Nat) (x : AV) (v : Value), l[j]? = some x → m[j]? = some v → x.rep s β n v
  | [], [], _ => ⟨rfl, fun j x v h => by simp at h⟩
  | x :: l, v :: m, h => by
    obtain ⟨h1, h2⟩ := h
    obtain ⟨h3, h4⟩ := ArgsOk.get h2
    refine ⟨by simp [h3], fun j y u hy hu => ?_⟩
    cases j with
    | zero => cases hy; cases hu; exact h1
    | succ j => exact h4 j y u (by simpa using hy) (by simpa using hu)

/-- The cells of a region from one on are as the list says. -/
def RowOk (s : Nums) (β : Places) (n r : Nat) (w : World) : Nat → List A0 → Prop
  | _, [] => True
  | j, x :: l => (∃ v, w.cell? (at_ β r j) = some v ∧ x.rep s β n v) ∧ RowOk s β n r w (j + 1) l
theorem RowOk.get {s : Nums} {β : Places} {n r : Nat} {w : World} : ∀ {l : List A0} {k : Nat}, RowOk s β n r w k l → ∀ (j : Nat) (x : A0), l[j]? = some x → ∃ v, w.cell? (at_ β r (k + j)) = some v ∧ x.rep s β n v
  | [], _, _, j, x, h => by simp at h
  | y :: l, k, h, 0, x, hx => by cases hx; exact h.1
  | y :: l, k, h, j + 1, x, hx => by
    have := RowOk.get h.2 j x (by simpa using hx)
    rwa [Nat.add_assoc, Nat.add_comm 1 j] at this
def MemOk (s : Nums) (β : Places) (n : Nat) (w : World) : List (Nat × List A0) → Prop
  | [] => True
  | (r, l) :: m => r < n ∧ RowOk s β n r w 0 l ∧ MemOk s β n w m
theorem MemOk.get {s : Nums} {β : Places} {n : Nat} {w : World} : ∀ {m : List (Nat × List A0)}, MemOk s β n w m → ∀ r l, lookup r m = some l → r < n ∧ CellsOk s β n r l w
  | [], _, r, l, h => by cases h
  | (q, k) :: m, h, r, l, hl => by
    rw [lookup] at hl
    cases hq : (q == r) with
    | true =>
      have := beq_iff_eq.1 hq
      subst this
      rw [hq, cond_true] at hl
      cases hl
      exact ⟨h.1, fun j x hx => by have := h.2.1.get j x hx; rwa [Nat.zero_add] at this⟩
    | false =>
      rw [hq, cond_false] at hl
      exact MemOk.get h.2.2 r l hl

/-- A call of a function without a result, or with one, by a run in brief. -/
theorem calls_brief {T : Tab} (hT : T.Ok Try.prog) {g : FuncId} {fn : Func} {F : Fix} {fuel nx nx0 : Nat} {args : List AV} {mem : List (Nat × List A0)} {exs : List Ex} {out : List (Nat × Nat × A0)} {o : Out} {ts : List Nat} {avs : List (Option AV)}
    (hb : brief ts (runF T F fuel fn (startSt args mem nx0 F.nold)) = some (o, nx, exs, out, avs)) (hf : Try.prog.funcs[g]? = some fn) (hnt : fn.ntmps = F.nt) {res : Option Tmp} (hres : resultOk fn o res)
    (hsc : inScope nx exs = true) (hle : exs.length ≤ nx) (hn0 : nx - exs.length = nx0) (ha1 : args.length ≤ F.nt) (ha2 : args.length < 4095)
    (s0 : Nums) (β : Places) {w : World} {vals : List Value} {R : Ending → World → Prop}
    (hargs : ∀ s : Nums, (∀ i, i < nx0 → s i = s0 i) → ArgsOk s β F.nold args vals)
    (hmem : ∀ s : Nums, (∀ i, i < nx0 → s i = s0 i) → MemOk s β F.nold w mem)
    (hfrz : ∀ r l, lookup r mem = some l → F.wr r = true → ∀ j, j < l.length → w.frozen? (at_ β r j) = false)
    (hold : ∀ r, r < F.nold → (β r).1 < w.heap.size) (hsep : ∀ r q, r < F.nold → q < F.nold → F.sep r q = true → (β r).1 ≠ (β q).1)
    (hdec : ∀ s : Nums, (∀ i, i < nx0 → s i = s0 i) → Holds s nx exs → Dec F s)
    (fin : ∀ s : Nums, (∀ i, i < nx0 → s i = s0 i) → Holds s nx exs → ∀ (st' : St) (β' : Places) (a' : Act) (w' : World), ts.map st'.tm.get = avs → Agree β β' F.nold → Rel F s β' w st' a' w' → Below w.heap.size (applyOut s β' w out) w' →
      R (.returned (match res with | none => .tuple #[] | some t => a'.tmps.getD t undef)) w')
    (hnp : ∀ s : Nums, (∀ i, i < nx0 → s i = s0 i) → ∀ r i j, F.np r = some (i, j) → r < F.nold ∧ Flag w (β r) (s i) (s j) := by
      intro s hs r i j h
      exact absurd (show (none : Option (Nat × Nat)) = some (i, j) from h) (by simp)) : Calls Try.prog g vals.toArray w R := by
  obtain ⟨st', hrun, hnx, hexs, hout, hts⟩ := brief_spec hb
  obtain ⟨c, hc, hrun⟩ := calls_of_runF hrun
  obtain ⟨s, hH, hs0⟩ := exists_nums s0 hle hsc
  rw [hn0] at hs0
  obtain ⟨hlen, hget⟩ := (hargs s hs0).get
  have hstart : Rel F s β w (startSt args mem nx0 F.nold) { tmps := vals.toArray ++ Array.replicate (fn.ntmps - vals.toArray.size) undef, defers := [] } w :=
    rel_start hlen hnt ha1 ha2 hget (hmem s hs0).get hfrz hold hsep (hdec s hs0 hH) (hnp s hs0)
  refine calls_run hT hf hc hres hstart hrun (by rw [hnx, hexs]; exact hH) fun β' a' w' hag hr => ?_
  have hbe := hr.below
  rw [hout] at hbe
  exact fin s hs0 hH st' β' a' w' hts hag hr hbe

theorem pq_224 : pq < 2 ^ 224 := by decide +kernel
theorem lim_lt (k v : Nat) : lim k v < 18446744073709551616 := Nat.mod_lt _ (Nat.two_pow_pos _)
/-- The four words of an element. -/
theorem lim_sum (v : Nat) : lim 0 v + 18446744073709551616 * lim 1 v + 340282366920938463463374607431768211456 * lim 2 v + 6277101735386680763835789423207666416102355444464034512896 * lim 3 v = v * 2 ^ 256 % pq := by
  have h : v * 2 ^ 256 % pq < pq := Nat.mod_lt _ pq_pos
  have h2 := pq_224
  unfold lim
  generalize v * 2 ^ 256 % pq = A at *
  have e0 : (2 : Nat) ^ (64 * 0) = 1 := by decide
  have e1 : (2 : Nat) ^ (64 * 1) = 18446744073709551616 := by decide
  have e2 : (2 : Nat) ^ (64 * 2) = 340282366920938463463374607431768211456 := by decide
  have e3 : (2 : Nat) ^ (64 * 3) = 6277101735386680763835789423207666416102355444464034512896 := by decide +kernel
  have e4 : (2 : Nat) ^ 224 = 26959946667150639794667015087019630673637144422540572481103610249216 := by decide +kernel
  rw [e4] at h2
  rw [e0, e1, e2, e3]
  omega
theorem lim_of_sum {r0 r1 r2 r3 v : Nat} (h : r0 + 18446744073709551616 * r1 + 340282366920938463463374607431768211456 * r2 + 6277101735386680763835789423207666416102355444464034512896 * r3 = v * 2 ^ 256 % pq)
    (h0 : r0 < 18446744073709551616) (h1 : r1 < 18446744073709551616) (h2 : r2 < 18446744073709551616) (_h3 : r3 < 18446744073709551616) : r0 = lim 0 v ∧ r1 = lim 1 v ∧ r2 = lim 2 v ∧ r3 = lim 3 v := by
  have := lim_sum v
  have l0 := lim_lt 0 v
  have l1 := lim_lt 1 v
  have l2 := lim_lt 2 v
  have l3 := lim_lt 3 v
  rw [← h] at this
  omega
theorem lim_sum_lt (v : Nat) : lim 0 v + 18446744073709551616 * lim 1 v + 340282366920938463463374607431768211456 * lim 2 v + 6277101735386680763835789423207666416102355444464034512896 * lim 3 v < 26959946667150639794667015087019630673557916260026308143510066298881 := by
  rw [lim_sum]
  exact Nat.mod_lt _ pq_pos

/-- 2^256 has an inverse. -/
def rinv : Nat := 6277101733925179126504886505003981583349178936664977833984
theorem rinv_spec : 2 ^ 256 * rinv % pq = 1 := by decide +kernel
theorem unmont' (x : Nat) (hx : x < pq) : (x * 2 ^ 256 % pq) * rinv % pq = x := by
  rw [Nat.mod_mul_mod, Nat.mul_assoc, ← Nat.mul_mod_mod, rinv_spec, Nat.mul_one, Nat.mod_eq_of_lt hx]
theorem unmont {a b : Nat} (ha : a < pq) (hb : b < pq) (h : a * 2 ^ 256 % pq = b * 2 ^ 256 % pq) : a = b := by
  rw [← unmont' a ha, h, unmont' b hb]
theorem r_val : (2 : Nat) ^ 256 = 115792089237316195423570985008687907853269984665640564039457584007913129639936 := by decide +kernel
/-- A product in the stored form. -/
theorem mont_prod {r A B x y : Nat} (hr : r * 2 ^ 256 % pq = A * B % pq) (hlt : r < pq) (hA : A = x * 2 ^ 256 % pq) (hB : B = y * 2 ^ 256 % pq) : r = (x * y % pq) * 2 ^ 256 % pq := by
  refine unmont hlt (Nat.mod_lt _ pq_pos) ?_
  rw [hr, hA, hB, ← Nat.mul_mod, Nat.mod_mul_mod, Nat.mul_assoc (x * y % pq), Nat.mod_mul_mod, Nat.mul_mul_mul_comm]
theorem mont_add {r A B x y : Nat} (hr : r = (A + B) % pq) (hA : A = x * 2 ^ 256 % pq) (hB : B = y * 2 ^ 256 % pq) : r = ((x + y) % pq) * 2 ^ 256 % pq := by
  rw [hr, hA, hB, ← Nat.add_mod, ← Nat.add_mul, Nat.mod_mul_mod]
theorem neg_aux {n a c : Nat} (h2 : (a + c) % n = 0) (h3 : a < n) (h4 : c < n) : a = (n - c) % n := by
  have h5 : a + c = 0 ∨ a + c = n := by
    by_cases h : a + c < n
    · rw [Nat.mod_eq_of_lt h] at h2; exact .inl h2
    · right
      have : (a + c - n) % n = 0 := by rw [← Nat.mod_eq_sub_mod (Nat.le_of_not_lt h)]; exact h2
      rw [Nat.mod_eq_of_lt (by omega)] at this
      omega
  rcases h5 with h5 | h5
  · have : a = 0 := by omega
    have : c = 0 := by omega
    subst a c
    rw [Nat.sub_zero, Nat.mod_self]
  · rw [← h5, Nat.add_sub_cancel]
    exact (Nat.mod_eq_of_lt (by omega)).symm
theorem mont_neg {y : Nat} (hy : y < pq) : ((pq - y) * 2 ^ 256) % pq = (pq - y * 2 ^ 256 % pq) % pq := by
  have h1 : (pq - y) * 2 ^ 256 + y * 2 ^ 256 = pq * 2 ^ 256 := by rw [← Nat.add_mul, Nat.sub_add_cancel (Nat.le_of_lt hy)]
  refine neg_aux ?_ (Nat.mod_lt _ pq_pos) (Nat.mod_lt _ pq_pos)
  rw [← Nat.add_mod, h1]
  exact Nat.mul_mod_right _ _
theorem mont_sub {r A B x y : Nat} (hr : r = (A + (pq - B)) % pq) (hA : A = x * 2 ^ 256 % pq) (hB : B = y * 2 ^ 256 % pq) (hy : y < pq) : r = ((x + (pq - y)) % pq) * 2 ^ 256 % pq := by
  rw [hr, hA, hB, Nat.mod_mul_mod, Nat.add_mul, Nat.add_mod, Nat.mod_mod, ← mont_neg hy, ← Nat.add_mod]

abbrev S4 (a b c d : Nat) : Nat := a + 18446744073709551616 * b + 340282366920938463463374607431768211456 * c + 6277101735386680763835789423207666416102355444464034512896 * d
def w4 (i : Nat) : List A0 := [.num .u64 i, .num .u64 (i + 1), .num .u64 (i + 2), .num .u64 (i + 3)]
def any4 : List A0 := [.any, .any, .any, .any]
def st3 : St := startSt [.one (.ptr 0 0), .one (.ptr 1 0), .one (.ptr 2 0)] [(0, any4), (1, w4 0), (2, w4 4)] 8 3
def st2 : St := startSt [.one (.ptr 0 0), .one (.ptr 1 0)] [(0, any4), (1, w4 0)] 4 2
def st1 : St := startSt [.one (.ptr 0 0)] [(0, any4)] 0 1
def stsel : St := startSt [.one (.ptr 0 0), .one (.bit .u64 0), .one (.ptr 1 0), .one (.ptr 2 0)] [(0, any4), (1, w4 1), (2, w4 5)] 9 3
def out4 (a b c d : Nat) : List (Nat × Nat × A0) := [(0, 3, .num .u64 d), (0, 2, .num .u64 c), (0, 1, .num .u64 b), (0, 0, .num .u64 a)]

theorem any4_row {s : Nums} {β : Places} {n r : Nat} {w : World} {b o : Nat} (hβ : β r = (b, o)) (h : RoomAt w b o) : RowOk s β n r w 0 any4 := by
  refine ⟨?_, ?_, ?_, ?_, trivial⟩ <;> rw [at_, hβ]
  · obtain ⟨v, hv⟩ := (h 0 (by decide)).1; exact ⟨v, hv, trivial⟩
  · obtain ⟨v, hv⟩ := (h 1 (by decide)).1; exact ⟨v, hv, trivial⟩
  · obtain ⟨v, hv⟩ := (h 2 (by decide)).1; exact ⟨v, hv, trivial⟩
  · obtain ⟨v, hv⟩ := (h 3 (by decide)).1; exact ⟨v, hv, trivial⟩
theorem any4_frz {β : Places} {r : Nat} {w : World} {b o : Nat} (hβ : β r = (b, o)) (h : RoomAt w b o) : ∀ j, j < any4.length → w.frozen? (at_ β r j) = false := fun j hj => by
  rw [at_, hβ]
  exact (h j hj).2
theorem w4_row {s : Nums} {β : Places} {n r : Nat} {w : World} {b o x i : Nat} (hβ : β r = (b, o)) (h : ElemAt w b o x) (hs : ∀ k, k < 4 → s (i + k) = lim k x) : RowOk s β n r w 0 (w4 i) := by
  have key : ∀ k, k < 4 → ∃ v, w.cell? (at_ β r k) = some v ∧ (A0.num .u64 (i + k)).rep s β n v := fun k hk => by
    refine ⟨_, by rw [at_, hβ]; exact h k hk, ?_, ?_⟩
    · rw [hs k hk]
    · rw [hs k hk]; exact lim_lt k x
  exact ⟨key 0 (by decide), key 1 (by decide), key 2 (by decide), key 3 (by decide), trivial⟩

theorem out4_apply {s : Nums} {β : Places} {w : World} {a b c d v x o : Nat} (hβ : β 0 = (x, o)) (h : s a = lim 0 v ∧ s b = lim 1 v ∧ s c = lim 2 v ∧ s d = lim 3 v) : applyOut s β w (out4 a b c d) = w.setCells x o (words v) := by
  obtain ⟨h0, h1, h2, h3⟩ := h
  have e : applyOut s β w (out4 a b c d) = (((w.setCell (at_ β 0 0) (.int .u64 (s a : Int))).setCell (at_ β 0 1) (.int .u64 (s b : Int))).setCell (at_ β 0 2) (.int .u64 (s c : Int))).setCell (at_ β 0 3) (.int .u64 (s d : Int)) := rfl
  rw [e, h0, h1, h2, h3]
  simp only [at_, hβ]
  rfl

theorem lt03 : 0 < 3 := by decide
theorem lt13 : 1 < 3 := by decide
theorem lt23 : 2 < 3 := by decide
theorem lt02 : 0 < 2 := by decide
theorem lt12 : 1 < 2 := by decide

theorem meets2_words {g : FuncId} {fn : Func} {nt fuel nx r0 r1 r2 r3 : Nat} {exs : List Ex} {f : Nat → Nat → Nat}
    (hb : brief [] (runF (tabOf false wordPrims) (regFix nt 3 1) fuel fn st3) = some (.normal, nx, exs, out4 r0 r1 r2 r3, [])) (hf : Try.prog.funcs[g]? = some fn) (hnt : fn.ntmps = nt) (hres : fn.results = #[])
    (hbody : fn.body.isNone = false) (hname : (fn.name == "runtime.NumGoroutine") = false) (hsc : inScope nx exs = true) (hle : exs.length + 8 = nx) (hn3 : 3 ≤ nt)
    (law : ∀ s : Nums, Holds s nx exs → (∀ i, i < 8 → s i < 18446744073709551616) → S4 (s 0) (s 1) (s 2) (s 3) < pq → S4 (s 4) (s 5) (s 6) (s 7) < pq → ∀ x y, x < pq → y < pq → S4 (s 0) (s 1) (s 2) (s 3) = x * 2 ^ 256 % pq → S4 (s 4) (s 5) (s 6) (s 7) = y * 2 ^ 256 % pq →
      S4 (s r0) (s r1) (s r2) (s r3) = f x y * 2 ^ 256 % pq ∧ s r0 < 18446744073709551616 ∧ s r1 < 18446744073709551616 ∧ s r2 < 18446744073709551616 ∧ s r3 < 18446744073709551616) : Meets2 Try.prog g true f := by
  intro w b o b1 o1 b2 o2 x y hlt hroom hx hy hxl hyl
  refine meets_of_calls hf hbody hname ?_
  let β : Places := fun r => if r = 0 then (b, o) else if r = 1 then (b1, o1) else (b2, o2)
  have in1 : ∀ s : Nums, (∀ i, i < 8 → s i = if i < 4 then lim i x else lim (i - 4) y) → (∀ k, k < 4 → s (0 + k) = lim k x) ∧ ∀ k, k < 4 → s (4 + k) = lim k y := fun s hs => by
    refine ⟨fun k hk => ?_, fun k hk => ?_⟩
    · rw [hs _ (by omega), if_pos (by omega), Nat.zero_add]
    · rw [hs _ (by omega), if_neg (by omega), Nat.add_sub_cancel_left]
  refine calls_brief (tabW_ok) hb hf hnt (res := none) ⟨.inl rfl, hres⟩ hsc (by omega) (by omega) hn3 (by decide) (fun i => if i < 4 then lim i x else lim (i - 4) y) β
    (vals := [ptrTo b o, ptrTo b1 o1, ptrTo b2 o2]) (fun s hs => ⟨⟨rfl, lt03⟩, ⟨rfl, lt13⟩, ⟨rfl, lt23⟩, trivial⟩)
    (fun s hs => ⟨lt03, any4_row rfl hroom, lt13, w4_row rfl hx (in1 s hs).1, lt23, w4_row rfl hy (in1 s hs).2, trivial⟩) ?_ ?_ (fun r q _ _ h => by cases h) (fun _ _ _ i b h => by cases h) ?_
  · intro r l hl hr
    have h0 : r < 1 := of_decide_eq_true hr
    have : r = 0 := by omega
    subst this
    cases hl
    exact any4_frz rfl hroom
  · intro r _
    have hc : ∀ {b o : Nat} {x : Nat}, ElemAt w b o x → b < w.heap.size := fun h => World.block_lt_of_cell? w _ (h 0 (by decide))
    show (if r = 0 then (b, o) else if r = 1 then (b1, o1) else (b2, o2)).1 < _
    split
    · exact hlt
    · split
      · exact hc hx
      · exact hc hy
  · intro s hs hH st' β' a' w' _ hag _ hbe
    obtain ⟨i1, i2⟩ := in1 s hs
    have s0 := i1 0 (by decide)
    have s1 := i1 1 (by decide)
    have s2 := i1 2 (by decide)
    have s3 := i1 3 (by decide)
    have s4 := i2 0 (by decide)
    have s5 := i2 1 (by decide)
    have s6 := i2 2 (by decide)
    have s7 := i2 3 (by decide)
    simp only [Nat.zero_add, Nat.add_zero, Nat.reduceAdd] at s0 s1 s2 s3 s4 s5 s6 s7
    have e1 : S4 (s 0) (s 1) (s 2) (s 3) = x * 2 ^ 256 % pq := by rw [s0, s1, s2, s3]; exact lim_sum x
    have e2 : S4 (s 4) (s 5) (s 6) (s 7) = y * 2 ^ 256 % pq := by rw [s4, s5, s6, s7]; exact lim_sum y
    obtain ⟨h1, h2, h3, h4, h5⟩ := law s hH (fun i hi => by
      rw [hs i hi]
      split
      · exact lim_lt _ _
      · exact lim_lt _ _) (by rw [e1]; exact Nat.mod_lt _ pq_pos) (by rw [e2]; exact Nat.mod_lt _ pq_pos) x y hxl hyl e1 e2
    refine ⟨_, rfl, (fun h => by cases h), ?_⟩
    rw [out4_apply (β := β') (hag 0 (by show 0 < 3; decide)) (lim_of_sum h1 h2 h3 h4 h5)] at hbe
    exact hbe

theorem meets1_words {g : FuncId} {fn : Func} {nt fuel nx r0 r1 r2 r3 : Nat} {exs : List Ex} {f : Nat → Nat}
    (hb : brief [] (runF (tabOf false wordPrims) (regFix nt 2 1) fuel fn st2) = some (.normal, nx, exs, out4 r0 r1 r2 r3, [])) (hf : Try.prog.funcs[g]? = some fn) (hnt : fn.ntmps = nt) (hres : fn.results = #[])
    (hbody : fn.body.isNone = false) (hname : (fn.name == "runtime.NumGoroutine") = false) (hsc : inScope nx exs = true) (hle : exs.length + 4 = nx) (hn3 : 2 ≤ nt)
    (law : ∀ s : Nums, Holds s nx exs → (∀ i, i < 4 → s i < 18446744073709551616) → S4 (s 0) (s 1) (s 2) (s 3) < pq → ∀ x, x < pq → S4 (s 0) (s 1) (s 2) (s 3) = x * 2 ^ 256 % pq →
      S4 (s r0) (s r1) (s r2) (s r3) = f x * 2 ^ 256 % pq ∧ s r0 < 18446744073709551616 ∧ s r1 < 18446744073709551616 ∧ s r2 < 18446744073709551616 ∧ s r3 < 18446744073709551616) : Meets1 Try.prog g true f := by
  intro w b o b1 o1 x hlt hroom hx hxl
  refine meets_of_calls hf hbody hname ?_
  let β : Places := fun r => if r = 0 then (b, o) else (b1, o1)
  have in1 : ∀ s : Nums, (∀ i, i < 4 → s i = lim i x) → (∀ k, k < 4 → s (0 + k) = lim k x) := fun s hs k hk => by
    rw [hs _ (by omega), Nat.zero_add]
  refine calls_brief (tabW_ok) hb hf hnt (res := none) ⟨.inl rfl, hres⟩ hsc (by omega) (by omega) hn3 (by decide) (fun i => lim i x) β
    (vals := [ptrTo b o, ptrTo b1 o1]) (fun s hs => ⟨⟨rfl, lt02⟩, ⟨rfl, lt12⟩, trivial⟩)
    (fun s hs => ⟨lt02, any4_row rfl hroom, lt12, w4_row rfl hx (in1 s hs), trivial⟩) ?_ ?_ (fun r q _ _ h => by cases h) (fun _ _ _ i b h => by cases h) ?_
  · intro r l hl hr
    have h0 : r < 1 := of_decide_eq_true hr
    have : r = 0 := by omega
    subst this
    cases hl
    exact any4_frz rfl hroom
  · intro r _
    show (if r = 0 then (b, o) else (b1, o1)).1 < _
    split
    · exact hlt
    · exact World.block_lt_of_cell? w _ (hx 0 (by decide))
  · intro s hs hH st' β' a' w' _ hag _ hbe
    have i1 := in1 s hs
    have s0 := i1 0 (by decide)
    have s1 := i1 1 (by decide)
    have s2 := i1 2 (by decide)
    have s3 := i1 3 (by decide)
    simp only [Nat.zero_add, Nat.add_zero] at s0 s1 s2 s3
    have e1 : S4 (s 0) (s 1) (s 2) (s 3) = x * 2 ^ 256 % pq := by rw [s0, s1, s2, s3]; exact lim_sum x
    obtain ⟨h1, h2, h3, h4, h5⟩ := law s hH (fun i hi => by
      rw [hs i hi]
      exact lim_lt _ _) (by rw [e1]; exact Nat.mod_lt _ pq_pos) x hxl e1
    refine ⟨_, rfl, (fun h => by cases h), ?_⟩
    rw [out4_apply (β := β') (hag 0 (by show 0 < 2; decide)) (lim_of_sum h1 h2 h3 h4 h5)] at hbe
    exact hbe
end P224
/- The contracts of the functions of words that work on elements: product, square, sum, difference, one, select. -/
namespace P224
open Go Go.RowKit Go.Proofs
set_option maxRecDepth 100000

theorem pq_lit : pq = 26959946667150639794667015087019630673557916260026308143510066298881 := rfl

theorem run107 : brief [] (runF (tabOf false wordPrims) (regFix 904 3 1) 2000 Try.f107 st3) = some (.normal, 207, ex107, out4 203 204 205 206, []) := by kernel_rfl
theorem meets107 : PrimOk Try.prog 107 (.fmul true) :=
  meets2_words run107 Try.func107 Try.ntmps107 Try.results107 (by kernel_rfl) (by kernel_rfl) (by decide +kernel) (by decide +kernel) (by decide) fun s hH hb _ h2 x y _ _ ex ey => by
    obtain ⟨h, hlt, hr⟩ := holds107 hH (hb 0 (by decide)) (hb 1 (by decide)) (hb 2 (by decide)) (hb 3 (by decide)) (hb 4 (by decide)) (hb 5 (by decide)) (hb 6 (by decide)) (hb 7 (by decide)) h2
    exact ⟨mont_prod h hlt ex ey, hr⟩

theorem run106 : brief [] (runF (tabOf false wordPrims) (regFix 902 2 1) 2000 Try.f106 st2) = some (.normal, 203, ex106, out4 199 200 201 202, []) := by kernel_rfl
theorem meets106 : PrimOk Try.prog 106 (.fsq true) :=
  meets1_words run106 Try.func106 Try.ntmps106 Try.results106 (by kernel_rfl) (by kernel_rfl) (by decide +kernel) (by decide +kernel) (by decide) fun s hH hb h2 x _ ex => by
    obtain ⟨h, hlt, hr⟩ := holds106 hH (hb 0 (by decide)) (hb 1 (by decide)) (hb 2 (by decide)) (hb 3 (by decide)) h2
    exact ⟨mont_prod h hlt ex ex, hr⟩

theorem run108 : brief [] (runF (tabOf false wordPrims) (regFix 139 3 1) 2000 Try.f108 st3) = some (.normal, 30, ex108, out4 26 27 28 29, []) := by kernel_rfl
theorem meets108 : PrimOk Try.prog 108 (.fadd true) :=
  meets2_words run108 Try.func108 Try.ntmps108 Try.results108 (by kernel_rfl) (by kernel_rfl) (by decide +kernel) (by decide +kernel) (by decide) fun s hH _ h1 h2 x y _ _ ex ey => by
    obtain ⟨h, hr⟩ := holds108 hH h1 h2
    exact ⟨mont_add h ex ey, hr⟩

theorem run109 : brief [] (runF (tabOf false wordPrims) (regFix 121 3 1) 2000 Try.f109 st3) = some (.normal, 28, ex109, out4 18 21 23 26, []) := by kernel_rfl
theorem meets109 : PrimOk Try.prog 109 (.fsub true) :=
  meets2_words run109 Try.func109 Try.ntmps109 Try.results109 (by kernel_rfl) (by kernel_rfl) (by decide +kernel) (by decide +kernel) (by decide) fun s hH hb h1 h2 x y _ hy ex ey => by
    obtain ⟨h, hr⟩ := holds109 hH (hb 0 (by decide)) (hb 1 (by decide)) (hb 2 (by decide)) (hb 3 (by decide)) (hb 4 (by decide)) (hb 5 (by decide)) (hb 6 (by decide)) (hb 7 (by decide)) h1 h2
    exact ⟨mont_sub h ex ey hy, hr⟩

def lit4 (a b c d : Int) : List (Nat × Nat × A0) := [(0, 3, .lit (.int .u64 d)), (0, 2, .lit (.int .u64 c)), (0, 1, .lit (.int .u64 b)), (0, 0, .lit (.int .u64 a))]
theorem run95 : brief [] (runF (tabOf false wordPrims) (regFix 14 1 1) 2000 Try.f95 st1) = some (.normal, 0, [], lit4 18446744069414584320 18446744073709551615 0 0, []) := by kernel_rfl
theorem lt01 : 0 < 1 := by decide
theorem meets95 : PrimOk Try.prog 95 (.fone true) := by
  unfold PrimOk
  intro w b o hlt hroom
  refine meets_of_calls Try.func95 (by kernel_rfl) (by kernel_rfl) ?_
  let β : Places := fun _ => (b, o)
  refine calls_brief (tabW_ok) run95 Try.func95 Try.ntmps95 (res := none) ⟨.inl rfl, Try.results95⟩ (by decide) (by decide) (by decide) (by decide) (by decide) (fun _ => 0) β
    (vals := [ptrTo b o]) (fun s hs => ⟨⟨rfl, lt01⟩, trivial⟩) (fun s hs => ⟨lt01, any4_row rfl hroom, trivial⟩) ?_ ?_ (fun r q _ _ h => by cases h) (fun _ _ _ i b h => by cases h) ?_
  · intro r l hl hr
    have h0 : r < 1 := of_decide_eq_true hr
    have : r = 0 := by omega
    subst this
    cases hl
    exact any4_frz rfl hroom
  · intro r _
    exact hlt
  · intro s hs hH st' β' a' w' _ hag _ hbe
    refine ⟨_, rfl, (fun h => by cases h), ?_⟩
    have e : applyOut s β' w (lit4 18446744069414584320 18446744073709551615 0 0) = w.setCells b o (words (1 % pq)) := by
      have e0 : lim 0 (1 % pq) = 18446744069414584320 := by decide +kernel
      have e1 : lim 1 (1 % pq) = 18446744073709551615 := by decide +kernel
      have e2 : lim 2 (1 % pq) = 0 := by decide +kernel
      have e3 : lim 3 (1 % pq) = 0 := by decide +kernel
      have e : applyOut s β' w (lit4 18446744069414584320 18446744073709551615 0 0) = (((w.setCell (at_ β' 0 0) (.int .u64 18446744069414584320)).setCell (at_ β' 0 1) (.int .u64 18446744073709551615)).setCell (at_ β' 0 2) (.int .u64 0)).setCell (at_ β' 0 3) (.int .u64 0) := rfl
      rw [e, words, e0, e1, e2, e3]
      have hb : β' 0 = (b, o) := hag 0 lt01
      simp only [at_, hb]
      rfl
    rw [e] at hbe
    exact hbe

theorem run118 : brief [] (runF (tabOf false wordPrims) (regFix 68 3 1) 2000 Try.f118 stsel) = some (.normal, 13, ex118, out4 9 10 11 12, []) := by kernel_rfl
theorem meets118 : PrimOk Try.prog 118 .fselv := by
  unfold PrimOk
  intro w b o b1 o1 b2 o2 x y c hlt hroom hx hy hxl hyl hc
  refine meets_of_calls Try.func118 (by kernel_rfl) (by kernel_rfl) ?_
  let β : Places := fun r => if r = 0 then (b, o) else if r = 1 then (b1, o1) else (b2, o2)
  have in1 : ∀ s : Nums, (∀ i, i < 9 → s i = if i = 0 then c else if i < 5 then lim (i - 1) x else lim (i - 5) y) → s 0 = c ∧ (∀ k, k < 4 → s (1 + k) = lim k x) ∧ ∀ k, k < 4 → s (5 + k) = lim k y := fun s hs => by
    refine ⟨by rw [hs _ (by omega), if_pos rfl], fun k hk => ?_, fun k hk => ?_⟩
    · rw [hs _ (by omega), if_neg (by omega), if_pos (by omega), Nat.add_sub_cancel_left]
    · rw [hs _ (by omega), if_neg (by omega), if_neg (by omega), Nat.add_sub_cancel_left]
  refine calls_brief (tabW_ok) run118 Try.func118 Try.ntmps118 (res := none) ⟨.inl rfl, Try.results118⟩ (by decide) (by decide) (by decide) (by decide) (by decide) (fun i => if i = 0 then c else if i < 5 then lim (i - 1) x else lim (i - 5) y) β
    (vals := [ptrTo b o, .int .u64 (c : Int), ptrTo b1 o1, ptrTo b2 o2]) (fun s hs => ⟨⟨rfl, lt03⟩, ⟨by rw [(in1 s hs).1], by rw [(in1 s hs).1]; exact hc⟩, ⟨rfl, lt13⟩, ⟨rfl, lt23⟩, trivial⟩)
    (fun s hs => ⟨lt03, any4_row rfl hroom, lt13, w4_row rfl hx (in1 s hs).2.1, lt23, w4_row rfl hy (in1 s hs).2.2, trivial⟩) ?_ ?_ (fun r q _ _ h => by cases h) (fun _ _ _ i b h => by cases h) ?_
  · intro r l hl hr
    have h0 : r < 1 := of_decide_eq_true hr
    have : r = 0 := by omega
    subst this
    cases hl
    exact any4_frz rfl hroom
  · intro r _
    show (if r = 0 then (b, o) else if r = 1 then (b1, o1) else (b2, o2)).1 < _
    split
    · exact hlt
    · split
      · exact World.block_lt_of_cell? w _ (hx 0 (by decide))
      · exact World.block_lt_of_cell? w _ (hy 0 (by decide))
  · intro s hs hH st' β' a' w' _ hag _ hbe
    obtain ⟨i0, i1, i2⟩ := in1 s hs
    obtain ⟨h1, h2, h3, h4⟩ := holds118 hH
    refine ⟨_, rfl, ?_⟩
    have s1 := i1 0 (by decide)
    have s2 := i1 1 (by decide)
    have s3 := i1 2 (by decide)
    have s4 := i1 3 (by decide)
    have s5 := i2 0 (by decide)
    have s6 := i2 1 (by decide)
    have s7 := i2 2 (by decide)
    have s8 := i2 3 (by decide)
    simp only [Nat.add_zero, Nat.reduceAdd] at s1 s2 s3 s4 s5 s6 s7 s8
    rw [i0, s1, s5] at h1
    rw [i0, s2, s6] at h2
    rw [i0, s3, s7] at h3
    rw [i0, s4, s8] at h4
    rw [out4_apply (β := β') (v := if c = 0 then x else y) (hag 0 lt03) (by split <;> rename_i hz <;> simp only [hz, if_true, if_false] at h1 h2 h3 h4 <;> exact ⟨h1, h2, h3, h4⟩)] at hbe
    exact hbe

def fiatPrims : List (Nat × Prim) := [(107, .fmul true), (106, .fsq true), (108, .fadd true), (109, .fsub true), (95, .fone true), (118, .fselv)]
theorem tabE_ok (b : Bool) : (tabOf b fiatPrims).Ok Try.prog := tab_ok _ _ fun f p h => by
  simp only [fiatPrims, List.mem_cons, List.not_mem_nil, or_false, Prod.mk.injEq] at h
  rcases h with h | h | h | h | h | h <;> obtain ⟨rfl, rfl⟩ := h
  · exact meets107
  · exact meets106
  · exact meets108
  · exact meets109
  · exact meets95
  · exact meets118
end P224
