/- The package's point out of bytes: what it does, and as a call that the executor knows. -/
import Derived.Test.YtccmmkgiamcgeaaGP1
set_option linter.all false
namespace P224
open Go Go.RowKit Go.Proofs
set_option maxRecDepth 100000
set_option linter.unusedVariables false

theorem on_of2 {x y a13 a14 a16 a17 a18 a20 a22 a23 : Nat} (e13 : a13 = x * x % pq) (e14 : a14 = a13 * x % pq) (e16 : a16 = (x + x) % pq) (e17 : a17 = (a16 + x) % pq) (e18 : a18 = (a14 + (pq - a17)) % pq) (e20 : a20 = (a18 + bq) % pq)
    (e22 : a22 = y * y % pq) (e23 : a23 = if a20 = a22 then 1 else 0) : a23 = onN x y := by
  have f13 : fi pp a13 = fi pp x * fi pp x := by rw [e13, pq_is, fi_mod, fi_mul]
  have f14 : fi pp a14 = fi pp x * fi pp x * fi pp x := by rw [e14, pq_is, fi_mod, fi_mul, f13]
  have f16 : fi pp a16 = fi pp x + fi pp x := by rw [e16, pq_is, fi_mod, fi_add]
  have f17 : fi pp a17 = fi pp x + fi pp x + fi pp x := by rw [e17, pq_is, fi_mod, fi_add, f16]
  have l17 : a17 ≤ pp := by rw [e17]; exact Nat.le_of_lt (Nat.mod_lt _ pos_pp)
  have f18 : fi pp a18 = fi pp x * fi pp x * fi pp x - (fi pp x + fi pp x + fi pp x) := by rw [e18, pq_is, fi_mod, fi_sub l17, f14, f17]
  have f20 : fi pp a20 = rhs bb (fi pp x) := by
    rw [e20, pq_is, fi_mod, fi_add, f18]
    unfold rhs
    have : fi pp bq = bb := rfl
    rw [this]
    grind
  have f22 : fi pp a22 = fi pp y * fi pp y := by rw [e22, pq_is, fi_mod, fi_mul]
  have l20 : a20 < pp := by rw [e20]; exact Nat.mod_lt _ pos_pp
  have l22 : a22 < pp := by rw [e22]; exact Nat.mod_lt _ pos_pp
  rw [e23, onN, ← f20, ← f22]
  by_cases h : a20 = a22
  · rw [if_pos h, if_pos (by rw [h])]
  · rw [if_neg h, if_neg (fun e => h (by
      have := fi_eq.1 e
      rw [Nat.mod_eq_of_lt l20, Nat.mod_eq_of_lt l22] at this
      exact this.symm))]

/-- A new point of the package. -/
structure NewPoint (w : World) (x y z bp bx b2 bz : Nat) (w' : World) : Prop where
  ge : w.heap.size ≤ bp ∧ w.heap.size ≤ bx ∧ w.heap.size ≤ b2 ∧ w.heap.size ≤ bz
  lt : bp < w'.heap.size ∧ bx < w'.heap.size ∧ b2 < w'.heap.size ∧ bz < w'.heap.size
  ne : bx ≠ b2 ∧ bx ≠ bz ∧ b2 ≠ bz ∧ bx ≠ bp ∧ b2 ≠ bp ∧ bz ≠ bp
  cells : w'.cell? ⟨bp, 0, none⟩ = some (ptrTo bx 0) ∧ w'.cell? ⟨bp, 1, none⟩ = some (ptrTo b2 0) ∧ w'.cell? ⟨bp, 2, none⟩ = some (ptrTo bz 0)
  els : ElemAt w' bx 0 x ∧ ElemAt w' b2 0 y ∧ ElemAt w' bz 0 z
  small : x < pq ∧ y < pq ∧ z < pq
  fz : (∀ k, k < 3 → w'.frozen? ⟨bp, k, none⟩ = false) ∧ (∀ k, k < 4 → w'.frozen? ⟨bx, k, none⟩ = false) ∧ (∀ k, k < 4 → w'.frozen? ⟨b2, k, none⟩ = false) ∧ ∀ k, k < 4 → w'.frozen? ⟨bz, k, none⟩ = false
  below : Below w.heap.size w w'

section
variable {s : Nums} {β : Places} {F : Fix} {w0 : World} {st : St} {a : Act} {w : World}
theorem Rel.point (h : Rel F s β w0 st a w) {x y z bp bx b2 bz i j k : Nat} {w' : World} (hn : NewPoint w x y z bp bx b2 bz w') (hi : s i = x) (hj : s j = y) (hk : s k = z) :
    ∃ β', Agree β β' st.nr ∧ β' (st.nr + 3) = (bp, 0) ∧ Rel F s β' w0 { st with mem := (st.nr + 3, [.ptr st.nr 0, .ptr (st.nr + 1) 0, .ptr (st.nr + 2) 0]) :: (st.nr + 2, limbs k) :: (st.nr + 1, limbs j) :: (st.nr, limbs i) :: st.mem, nr := st.nr + 4 } a w' := by
  obtain ⟨⟨h1, h2, h3, h4⟩, ⟨l1, l2, l3, l4⟩, ⟨n1, n2, n3, n4, n5, n6⟩, ⟨c1, c2, c3⟩, ⟨e1, e2, e3⟩, ⟨s1, s2, s3⟩, ⟨z1, z2, z3, z4⟩, hb⟩ := hn
  have hsz := h.size_le
  have f1 := h.far_from (B := 0) h1
  have f2 := h.far_from (B := 0) h2
  have f3 := h.far_from (B := 0) h3
  have f4 := h.far_from (B := 0) h4
  have hk' := h.kept hb
  obtain ⟨β1, g1, q1, r1⟩ := hk'.add (Nat.le_trans hsz h2) l2 f2 (l := limbs i) (fun m y hy => by
    obtain ⟨v, u1, u2⟩ := limbs_cells e1 hi s1 m y hy
    exact ⟨v, u1, fun β' _ _ => u2 β' _⟩) (fun m hm => z2 m hm)
  have a1 : ∀ b', (∀ r, F.nold ≤ r → r < st.nr → (β r).1 ≠ b') → bx ≠ b' → ∀ r, F.nold ≤ r → r < st.nr + 1 → (β1 r).1 ≠ b' := fun b' hb hne r hr1 hr2 => by
    by_cases hr : r < st.nr
    · rw [g1 r hr]; exact hb r hr1 hr
    · have : r = st.nr := by omega
      subst this
      rw [q1]
      exact hne
  obtain ⟨β2, g2, q2, r2⟩ := r1.add (Nat.le_trans hsz h3) l3 (a1 b2 f3 n1) (l := limbs j) (fun m y hy => by
    obtain ⟨v, u1, u2⟩ := limbs_cells e2 hj s2 m y hy
    exact ⟨v, u1, fun β' _ _ => u2 β' _⟩) (fun m hm => z3 m hm)
  have a2 : ∀ b', (∀ r, F.nold ≤ r → r < st.nr + 1 → (β1 r).1 ≠ b') → b2 ≠ b' → ∀ r, F.nold ≤ r → r < st.nr + 1 + 1 → (β2 r).1 ≠ b' := fun b' hb hne r hr1 hr2 => by
    by_cases hr : r < st.nr + 1
    · rw [g2 r hr]; exact hb r hr1 hr
    · have : r = st.nr + 1 := by omega
      subst this
      rw [q2]
      exact hne
  obtain ⟨β3, g3, q3, r3⟩ := r2.add (Nat.le_trans hsz h4) l4 (a2 bz (a1 bz f4 n2) n3) (l := limbs k) (fun m y hy => by
    obtain ⟨v, u1, u2⟩ := limbs_cells e3 hk s3 m y hy
    exact ⟨v, u1, fun β' _ _ => u2 β' _⟩) (fun m hm => z4 m hm)
  have a3 : ∀ r, F.nold ≤ r → r < st.nr + 1 + 1 + 1 → (β3 r).1 ≠ bp := fun r hr1 hr2 => by
    by_cases hr : r < st.nr + 1 + 1
    · rw [g3 r hr]; exact a2 bp (a1 bp f1 n4) n5 r hr1 hr
    · have : r = st.nr + 1 + 1 := by omega
      subst this
      rw [q3]
      exact n6
  have p1 : β3 st.nr = (bx, 0) := by rw [g3 st.nr (show st.nr < st.nr + 1 + 1 by omega), g2 st.nr (show st.nr < st.nr + 1 by omega), q1]
  have p2 : β3 (st.nr + 1) = (b2, 0) := by rw [g3 (st.nr + 1) (show st.nr + 1 < st.nr + 1 + 1 by omega), q2]
  obtain ⟨β4, g4, q4, r4⟩ := r3.add (Nat.le_trans hsz h1) l1 a3 (l := [.ptr st.nr 0, .ptr (st.nr + 1) 0, .ptr (st.nr + 2) 0]) (fun m y hy => by
    have lt1 : st.nr < st.nr + 1 + 1 + 1 := by omega
    have lt2 : st.nr + 1 < st.nr + 1 + 1 + 1 := by omega
    have lt3 : st.nr + 2 < st.nr + 1 + 1 + 1 := by omega
    match m, hy with
    | 0, hy => cases hy; exact ⟨_, c1, fun β' hag _ => ⟨by rw [at_, hag _ lt1, p1], Nat.lt_succ_of_lt lt1⟩⟩
    | 1, hy => cases hy; exact ⟨_, c2, fun β' hag _ => ⟨by rw [at_, hag _ lt2, p2], Nat.lt_succ_of_lt lt2⟩⟩
    | 2, hy => cases hy; exact ⟨_, c3, fun β' hag _ => ⟨by rw [at_, hag _ lt3]; show ptrTo bz 0 = .pointer (some ⟨(β3 (st.nr + 1 + 1)).1, (β3 (st.nr + 1 + 1)).2 + 0, none⟩); rw [q3], Nat.lt_succ_of_lt lt3⟩⟩
    | m + 3, hy => cases hy) (fun m hm => z1 m hm)
  exact ⟨β4, fun r hr => by rw [g4 r (show r < st.nr + 1 + 1 + 1 by omega), g3 r (show r < st.nr + 1 + 1 by omega), g2 r (show r < st.nr + 1 by omega), g1 r hr], q4, r4⟩
end
end P224
/- The package's point out of the bytes of a point of the curve, as a call that the executor knows. -/
namespace P224
open Go Go.RowKit Go.Proofs
set_option maxRecDepth 100000
set_option linter.unusedVariables false

def fix61 : Fix := fixD 16 1 [] [] [(8, true), (11, true), (24, false)]
def st61 : St := startSt [.one (.sl 0 0 57)] [(0, ptRow 0 1)] 2 1
def ex61 : List Ex := [
.fcst 1,
.fne (.v 23) (.c 1),
.feq (.v 20) (.v 22),
.fmul (.v 10) (.v 10),
.fcst 0,
.fadd (.v 18) (.v 19),
.fcst bq,
.fsub (.v 14) (.v 17),
.fadd (.v 16) (.v 7),
.fadd (.v 7) (.v 7),
.fcst 0,
.fmul (.v 13) (.v 7),
.fmul (.v 7) (.v 7),
.fcst 0,
.op 4 [(.v 10), (.c pq)],
.op 2 (bs28 1),
.fcst 0,
.op 4 [(.v 7), (.c pq)],
.op 2 (bs28 0),
.fcst 0,
.fcst 0,
.fcst 1,
.fcst 0,
.fcst 0]
def br61 : BriefR := ⟨.ret, 26, ex61, [], [.one (.ptr 4 0), .one (.lit (.bool true))], [some (limbs 7), some (limbs 10), some (limbs 25), some [.ptr 1 0, .ptr 2 0, .ptr 3 0]]⟩
theorem run61 : briefR (tabX true pointPrims xi3) Try.f61 [1, 2, 3, 4] (runF (tabX true pointPrims xi3) fix61 3000 Try.f61 st61) = some br61 := by kernel_rfl

theorem law61 {s : Nums} {x y : Nat} (h0 : s 0 = x) (h1 : s 1 = y) (hx : x < pq) (hy : y < pq) (hon : onN x y = 1) (h : Holds s 26 ex61) : s 7 = x ∧ s 10 = y ∧ s 25 = 1 ∧ s 8 = 1 ∧ s 11 = 1 ∧ s 24 = 0 := by
  obtain ⟨h25, h24, h23, h22, h21, h20, h19, h18, h17, h16, h15, h14, h13, h12, h11, h10, h9, h8, h7, _⟩ := h
  have e7 : s 7 = x := by
    have : s 7 = ofBytes ((bs28 0).map (Wd.val s)) := h7
    rw [this, vals_bs28 (by rw [h0]; exact hx), h0]
  have e10 : s 10 = y := by
    have : s 10 = ofBytes ((bs28 1).map (Wd.val s)) := h10
    rw [this, vals_bs28 (by rw [h1]; exact hy), h1]
  have e8 : s 8 = if s 7 < pq then 1 else 0 := h8
  have e11 : s 11 = if s 10 < pq then 1 else 0 := h11
  rw [e7, if_pos hx] at e8
  rw [e10, if_pos hy] at e11
  have e13 : s 13 = s 7 * s 7 % pq := h13
  have e14 : s 14 = s 13 * s 7 % pq := h14
  have e16 : s 16 = (s 7 + s 7) % pq := h16
  have e17 : s 17 = (s 16 + s 7) % pq := h17
  have e18 : s 18 = (s 14 + (pq - s 17)) % pq := h18
  have e19 : s 19 = bq % pq := h19
  have e20 : s 20 = (s 18 + s 19) % pq := h20
  have e22 : s 22 = s 10 * s 10 % pq := h22
  have e23 : s 23 = if s 20 = s 22 then 1 else 0 := h23
  have e24 : s 24 = if s 23 = 1 then 0 else 1 := h24
  have e25 : s 25 = 1 % pq := h25
  rw [Nat.mod_eq_of_lt bq_lt] at e19
  rw [e19] at e20
  rw [e7] at e13 e14 e16 e17
  rw [e10] at e22
  have ho := on_of2 e13 e14 e16 e17 e18 e20 e22 e23
  rw [hon] at ho
  rw [ho, if_pos rfl] at e24
  exact ⟨e7, e10, e25.trans mod_one_pq, e8, e11, e24⟩

theorem row_limbs {s : Nums} {β : Places} {F : Fix} {w0 : World} {st : St} {a : Act} {w : World} (hr : Rel F s β w0 st a w) {r i x b : Nat} (hl : lookup r st.mem = some (limbs i)) (hn : F.nold ≤ r) (hs : s i = x) (hb : β r = (b, 0)) :
    ElemAt w b 0 x ∧ (∀ k, k < 4 → w.frozen? ⟨b, k, none⟩ = false) ∧ x < pq := by
  obtain ⟨h1, hc⟩ := hr.mem r _ hl
  have hel : elemAt st.mem r 0 = some i := by
    unfold elemAt cellsAt
    rw [hl]
    show (bif (i == i && i == i && i == i) then some i else none) = some i
    rw [show (i == i) = true from beq_self_eq_true i]
    rfl
  obtain ⟨g1, g2⟩ := elemAt_rep hr hel
  rw [hb, hs] at g1
  rw [hs] at g2
  refine ⟨g1, fun k hk => ?_, g2⟩
  have := hr.frz r _ hl (.inl hn) k hk
  rw [at_, hb, Nat.zero_add] at this
  exact this

theorem meets61 (w : World) (b o c x y : Nat) (hc : 57 ≤ c) (hp : PtBytes w b o x y) (hx : x < pq) (hy : y < pq) (hon : onN x y = 1) :
    Meets Try.prog 61 #[.slice (some ⟨b, o, none⟩) 57 c] w fun v w' => ∃ bp bx b2 bz, NewPoint w x y 1 bp bx b2 bz w' ∧ v = .tuple #[ptrTo bp 0, .bool true] := by
  refine meets_of_calls Try.func61 (by kernel_rfl) (by kernel_rfl) ?_
  let β : Places := fun r => (b, o)
  let s0 : Nums := fun i => if i = 0 then x else y
  have hlt : b < w.heap.size := World.block_lt_of_cell? w _ (hp 0 4 rfl)
  refine calls_briefR (F := fix61) (tabX_ok pointPrims_ok xi3_ok) run61 Try.func61 Try.ntmps61 rfl (by decide +kernel) (by decide +kernel) (by decide +kernel) (show 1 ≤ 16 by decide) (show 1 < 4095 by decide) s0 β
    (vals := [.slice (some ⟨b, o, none⟩) 57 c]) (fun s hs => ⟨⟨c, hc, rfl, show 0 < 1 by decide⟩, trivial⟩)
    (fun s hs => ⟨show 0 < 1 by decide, ptRow_row rfl hp (hs 0 (by decide)) (hs 1 (by decide)) hx hy, trivial⟩) (fun r l hl hr => by cases hr) (fun r _ => hlt) (fun r q _ _ h => by cases h) ?_ ?_
  · intro s hs hH i bb hb
    obtain ⟨_, _, _, e8, e11, e24⟩ := law61 (hs 0 (by decide)) (hs 1 (by decide)) hx hy hon hH
    have hb' : findT i [(8, true), (11, true), (24, false)] = some bb := hb
    have := findT_mem hb'
    simp only [List.mem_cons, List.not_mem_nil, or_false, Prod.mk.injEq] at this
    rcases this with ⟨rfl, rfl⟩ | ⟨rfl, rfl⟩ | ⟨rfl, rfl⟩
    · exact e8
    · exact e11
    · exact e24
  · intro s hs hH st' β' a' w' v hv hm hag hr hbe
    obtain ⟨e7, e10, e25, _, _, _⟩ := law61 (hs 0 (by decide)) (hs 1 (by decide)) hx hy hon hH
    have hm' : [lookup 1 st'.mem, lookup 2 st'.mem, lookup 3 st'.mem, lookup 4 st'.mem] = [some (limbs 7), some (limbs 10), some (limbs 25), some [.ptr 1 0, .ptr 2 0, .ptr 3 0]] := hm
    injection hm' with m1 hm'
    injection hm' with m2 hm'
    injection hm' with m3 hm'
    injection hm' with m4 _
    have n1 : fix61.nold ≤ 1 := by decide
    have n2 : fix61.nold ≤ 2 := by decide
    have n3 : fix61.nold ≤ 3 := by decide
    have n4 : fix61.nold ≤ 4 := by decide
    obtain ⟨p1, _⟩ := hr.mem 1 _ m1
    obtain ⟨p2, _⟩ := hr.mem 2 _ m2
    obtain ⟨p3, _⟩ := hr.mem 3 _ m3
    obtain ⟨p4, c4⟩ := hr.mem 4 _ m4
    obtain ⟨f1, f2, f3⟩ := hr.fresh 1 n1 p1
    obtain ⟨g1, g2, g3⟩ := hr.fresh 2 n2 p2
    obtain ⟨i1, i2, i3⟩ := hr.fresh 3 n3 p3
    obtain ⟨j1, j2, j3⟩ := hr.fresh 4 n4 p4
    obtain ⟨u1, u2, u3⟩ := row_limbs hr m1 n1 e7 (b := (β' 1).1) (by rw [← f3])
    obtain ⟨v1, v2, v3⟩ := row_limbs hr m2 n2 e10 (b := (β' 2).1) (by rw [← g3])
    obtain ⟨x1, x2, x3⟩ := row_limbs hr m3 n3 e25 (b := (β' 3).1) (by rw [← i3])
    have get : ∀ k q, [A0.ptr 1 0, .ptr 2 0, .ptr 3 0][k]? = some (.ptr q 0) → (β' q).2 = 0 → w'.cell? ⟨(β' 4).1, k, none⟩ = some (ptrTo (β' q).1 0) := fun k q hk hq => by
      obtain ⟨v, y1, y2⟩ := c4 k _ hk
      rw [y2.1, at_, at_, j3, hq, Nat.zero_add] at y1
      exact y1
    have fz : ∀ k, k < 3 → w'.frozen? ⟨(β' 4).1, k, none⟩ = false := fun k hk => by
      have := hr.frz 4 _ m4 (.inl n4) k hk
      rw [at_, j3, Nat.zero_add] at this
      exact this
    obtain ⟨vs, rfl, hvl⟩ := hv
    match vs, hvl with
    | [w1, w2], ⟨hw1, hw2, _⟩ =>
    have k1 : w1 = .pointer (some (at_ β' 4 0)) := hw1.1
    have k2 : w2 = .bool true := hw2
    refine ⟨_, rfl, (β' 4).1, (β' 1).1, (β' 2).1, (β' 3).1, ⟨⟨j1, f1, g1, i1⟩, ⟨j2, f2, g2, i2⟩, ⟨hr.dist 1 2 n1 n2 p1 p2 (by decide), hr.dist 1 3 n1 n3 p1 p3 (by decide), hr.dist 2 3 n2 n3 p2 p3 (by decide), hr.dist 1 4 n1 n4 p1 p4 (by decide), hr.dist 2 4 n2 n4 p2 p4 (by decide), hr.dist 3 4 n3 n4 p3 p4 (by decide)⟩,
      ⟨get 0 1 rfl f3, get 1 2 rfl g3, get 2 3 rfl i3⟩, ⟨u1, v1, x1⟩, ⟨u3, v3, x3⟩, ⟨fz, u2, v2, x2⟩, hbe⟩, ?_⟩
    rw [k1, k2, at_, j3]
end P224
/- The package's point out of bytes, as a call that the executor knows. -/
namespace P224
open Go Go.RowKit Go.Proofs
set_option maxRecDepth 100000
set_option linter.unusedVariables false

/-- The numbers of a row of a point's bytes. -/
def pointRow (m : List (Nat × List A0)) (r o : Nat) : Option (Nat × Nat) :=
  match cellsAt m r o 57 with
  | some (t :: l) => match l.head?, l.getLast? with
    | some (.byt i _), some (.byt j _) => bif sameAll (t :: l) (ptRow i j) then some (i, j) else none
    | _, _ => none
  | _ => none
theorem pointRow_rep {s : Nums} {β : Places} {F : Fix} {w0 : World} {st : St} {a : Act} {w : World} (hr : Rel F s β w0 st a w) {r o i j : Nat} (h : pointRow st.mem r o = some (i, j)) :
    PtBytes w (β r).1 ((β r).2 + o) (s i) (s j) ∧ s i < pq ∧ s j < pq := by
  unfold pointRow at h
  split at h
  · rename_i t l hl
    split at h
    · rename_i i' _ j' _ _ _
      obtain ⟨hs, h⟩ := bif_some h
      cases h
      rw [sameAll_eq hs] at hl
      obtain ⟨k, hk, hlen, _, hj⟩ := cellsAt_ok (nr := 0) hl
      obtain ⟨_, hcl⟩ := hr.mem r k hk
      have get : ∀ m, m < 57 → ∀ z, (ptRow i j)[m]? = some z → ∃ v, w.cell? ⟨(β r).1, (β r).2 + o + m, none⟩ = some v ∧ z.rep s β st.nr v := fun m hm z hz => by
        obtain ⟨v, h1, h2⟩ := hcl (o + m) z (by rw [← hj m hm]; exact hz)
        rw [at_, ← Nat.add_assoc] at h1
        exact ⟨v, h1, h2⟩
      have li : s i < pq := by
        obtain ⟨v, _, h2⟩ := get 1 (by decide) (.byt i 27) rfl
        exact h2.2
      have lj : s j < pq := by
        obtain ⟨v, _, h2⟩ := get 29 (by decide) (.byt j 27) rfl
        exact h2.2
      refine ⟨fun m z hz => ?_, li, lj⟩
      have hm : m < 57 := by
        have := (List.getElem?_eq_some_iff.1 hz).1
        rwa [pvals_len] at this
      obtain ⟨y, hy⟩ : ∃ y, (ptRow i j)[m]? = some y := ⟨_, List.getElem?_eq_getElem (by rw [ptRow_len]; exact hm)⟩
      obtain ⟨v, h1, h2⟩ := get m hm y hy
      obtain ⟨z', hz', hrep⟩ := ptRow_rep li lj m y hy
      rw [hz] at hz'
      cases hz'
      have hdf := ptRow_def (List.mem_of_getElem? hy)
      rw [h1, rep_conc hdf h2, ← rep_conc hdf (hrep β st.nr)]
    · cases h
  · cases h

/-- pointP224 of a point's bytes: it must be decided that it is on the curve. -/
def x61a : X := fun F st args => match args with
  | [.one x] => match x.asSl with
    | some (r, o, 57) => match pointRow st.mem r o, F.dec st.nx with
      | some (i, j), some true => some (.tup [.one (.ptr (st.nr + 3) 0), .one (.lit (.bool true))],
          { st with mem := (st.nr + 3, [.ptr st.nr 0, .ptr (st.nr + 1) 0, .ptr (st.nr + 2) 0]) :: (st.nr + 2, limbs (st.nx + 1)) :: (st.nr + 1, limbs j) :: (st.nr, limbs i) :: st.mem, nr := st.nr + 4, nx := st.nx + 2, exs := .fcst 1 :: .op 20 [.v i, .v j] :: st.exs })
      | _, _ => none
    | _ => none
  | _ => none
theorem x61a_ok : XOk Try.prog 61 x61a := by
  refine ⟨fun {F st st' args av} h => ?_, fun {s β F w0 st st' a w args vs av} hr h hargs hH => ?_⟩
  · unfold x61a at h
    split at h
    · split at h
      · split at h
        · cases h; exact ⟨⟨[_, _], rfl, rfl⟩, Nat.le_add_right _ _⟩
        · cases h
      · cases h
    · cases h
  · unfold x61a at h
    split at h
    · rename_i x
      split at h
      · rename_i r o hx
        split at h
        · rename_i i j hrow hdec
          cases h
          obtain ⟨u, rfl, hu⟩ := avs1 hargs
          obtain ⟨⟨ca, hva, hca⟩, _⟩ := asSl_rep hx hu
          obtain ⟨hpt, li, lj⟩ := pointRow_rep hr hrow
          have e1 : s (st.nx + 1) = 1 % pq := hH.1
          have e0 : s st.nx = onN (s i) (s j) := hH.2.1
          rw [mod_one_pq] at e1
          have hd := hr.dec _ _ hdec
          have hon : onN (s i) (s j) = 1 := by
            have hle := onN_le (s i) (s j)
            have : s st.nx ≠ 0 := fun e => by rw [e] at hd; cases hd
            omega
          have hme := meets61 w (β r).1 ((β r).2 + o) ca _ _ hca hpt li lj hon
          intro o' a' next Q hn
          rw [hva]
          refine hme o' a' next Q fun v' w' ⟨bp, bx, b2, bz, hnew, hv'⟩ => hn _ _ ?_
          obtain ⟨β', g1, g2, g3⟩ := hr.point hnew (i := i) (j := j) (k := st.nx + 1) rfl rfl e1
          refine ⟨β', g1, ⟨[_, _], hv', ⟨?_, Nat.lt_succ_self _⟩, rfl, trivial⟩, g3.nums _ _⟩
          rw [at_, g2]
        · cases h
      · cases h
    · cases h
end P224
