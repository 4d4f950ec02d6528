/- The reference's Multiple: how it begins and how it ends. -/
import Derived.Test.YtccmmkgiamcgeaaGZ3
import Derived.Test.YtccmmkgiamcgeaaGP7
set_option linter.all false
namespace P224
open Go Go.RowKit Go.Proofs
set_option maxRecDepth 100000
set_option linter.unusedVariables false

/-- What is seen of the end of several codes. -/
def peekS (T : Tab) (F : Fix) (f : Nat) (l : List Code) (st : St) (m : Nat) (ts rs : List Nat) : Option Pk :=
  match runL T F f l st with
  | some (o, st') => bif st'.out.isEmpty && decide (m ≤ st'.nr) then some ⟨o, st'.nx, st'.exs, ts.map st'.tm.get, rs.map fun r => lookup r st'.mem⟩ else none
  | none => none
theorem peekS_spec {T : Tab} {F : Fix} {f : Nat} {l : List Code} {st : St} {m : Nat} {ts rs : List Nat} {p : Pk} (h : peekS T F f l st m ts rs = some p) :
    ∃ st', runL T F f l st = some (p.o, st') ∧ st'.out = [] ∧ st'.nx = p.nx ∧ st'.exs = p.exs ∧ m ≤ st'.nr ∧ ts.map st'.tm.get = p.tms ∧ (rs.map fun r => lookup r st'.mem) = p.mems := by
  unfold peekS at h
  split at h
  · rename_i o st' hr
    rw [cond_eq_ite] at h
    split at h
    · rename_i he
      cases h
      simp only [Bool.and_eq_true, decide_eq_true_eq] at he
      exact ⟨st', hr, List.isEmpty_iff.1 he.1, rfl, rfl, he.2, rfl, rfl⟩
    · cases h
  · cases h
def st24 (N : Nat) : St := startSt [curveAV 0, .one (.sl 3 0 N), .agg [.lit (.bool false), .slc 1 0 7 7, .slc 2 0 7 7]] [(0, foldCells), (1, l32s 0), (2, l32s 1), (3, numsFrom .u8 7 N)] (7 + N) 4
def ρs (i : Nat) : Nat := if i = 7 then 13 else if i = 9 then 10 else if i = 10 then 12 else i
def Starts (N : Nat) : Prop :=
  peekS (tabM xb1) (fixH 74 4 []) 3000 [k0, k1, k3, k4] (st24 N) 14 ((tmO N 0).map fun e => e.1) ((memH hC).map fun e => ρs e.1) = some ⟨.normal, 7 + N, [], (tmO N 0).map fun e => some (e.2.rn ρs id), memR hC ρs id⟩
theorem starts28 : Starts 28 := by unfold Starts; kernel_rfl
theorem starts1 : Starts 1 := by unfold Starts; kernel_rfl

/-- The end: the result's cell, and its rows. -/
def endOf (T : Tab) (fn : Func) (rs : List Nat) (r : Option (Out × St)) : Option BriefR := briefR T fn rs r
def farE (Z : Wd) : List Ex := [.feq Z (.c 0)]
def affE (X Y Z : Wd) : List Ex := [.fmul Y (.v 11), .fmul (.v 9) (.v 8), .fmul X (.v 9), .fmul (.v 8) (.v 8), .finv Z, .feq Z (.c 0)]
def farAV : AV := .agg [.lit (.bool true), .lit (.slice none 0 0), .lit (.slice none 0 0)]
def affAV : AV := .agg [.lit (.bool false), .slc 15 0 7 14, .slc 17 0 7 14]
def EndF (N : Nat) (h : Hd) : Prop := briefR (tabM xb1) Try.f24 [] (run (tabM xb1) (fixH 74 4 [(7, true)]) 3000 kP (headSt (tmO N N) (memH h) 7 11)) = some ⟨.ret, 8, farE h.Z, [], [farAV], []⟩
def EndA (N : Nat) (h : Hd) : Prop := briefR (tabM xb1) Try.f24 [15, 17] (run (tabM xb1) (fixH 74 4 [(7, false)]) 3000 kP (headSt (tmO N N) (memH h) 7 11)) = some ⟨.ret, 13, affE h.X h.Y h.Z, [], [affAV], [some (l32s 10), some (l32s 12)]⟩
theorem endF (N : Nat) {h : Hd} (hh : IsHd h) : EndF N h := by
  cases hh
  · unfold EndF; kernel_rfl
  · unfold EndF; kernel_rfl
  · unfold EndF; kernel_rfl
theorem endA (N : Nat) {h : Hd} (hh : IsHd h) : EndA N h := by
  cases hh
  · unfold EndA; kernel_rfl
  · unfold EndA; kernel_rfl
  · unfold EndA; kernel_rfl
end P224
/- The reference's Multiple: what the numbers of a round come to. -/
namespace P224
open Go Go.RowKit Go.Proofs
set_option maxRecDepth 100000
set_option linter.unusedVariables false

theorem renOk_dec {nold nr2 nr : Nat} {ρ : Nat → Nat} (h : ((List.range nold).all (fun r => ρ r == r) && (List.range nr2).all (fun r => decide (r < nold) || (decide (nold ≤ ρ r) && decide (ρ r < nr) && (List.range nr2).all fun q => decide (q < nold) || decide (r = q) || decide (ρ r ≠ ρ q))) && decide (nold ≤ nr2)) = true) : RenOk nold nr2 nr ρ := by
  simp only [Bool.and_eq_true, List.all_eq_true, List.mem_range, Bool.or_eq_true, decide_eq_true_eq, beq_iff_eq] at h
  obtain ⟨⟨h1, h2⟩, h3⟩ := h
  refine ⟨h1, fun r a b => ?_, fun r q a b c d e => ?_, h3⟩
  · rcases h2 r b with g | ⟨g, _⟩
    · omega
    · exact g
  · rcases h2 r c with g | ⟨_, g⟩
    · omega
    · rcases g q d with (g | g) | g
      · omega
      · exact absurd g e
      · exact g

/-- Three numbers are those of a point. -/
def JN (s : Nums) (X Y Z : Wd) (p : Pt pp) : Prop := JRep (fi pp (X.val s)) (fi pp (Y.val s)) (fi pp (Z.val s)) p ∧ Z.val s < pq
theorem fi_fmul {s : Nums} {k a b : Nat} (h : s k = a * b % pq) : fi pp (s k) = fi pp a * fi pp b := by rw [h, pq_is, fi_mod, fi_mul]
theorem fi_fadd {s : Nums} {k a b : Nat} (h : s k = (a + b) % pq) : fi pp (s k) = fi pp a + fi pp b := by rw [h, pq_is, fi_mod, fi_add]
def subq (a b : Nat) : Nat := (((a : Int) - (b : Int)) % (pq : Int)).toNat
theorem subq_lt (a b : Nat) : subq a b < pq := m14 a b
theorem fi_fsub {s : Nums} {k a b : Nat} (h : s k = subq a b) : fi pp (s k) = fi pp a - fi pp b := by rw [h, subq, fi_int]
theorem twE_ok {s : Nums} {X Y Z : Wd} {b : Nat} {l : List Ex} {p : Pt pp} (hp : OnC bb p) (hj : JN s X Y Z p) (hH : Holds s (b + 18) (twE X Y Z b l)) :
    JN s (.v (b + 10)) (.v (b + 15)) (.v (b + 17)) (padd p p) ∧ Holds s b l := by
  obtain ⟨h17, h16, h15, h14, h13, h12, h11, h10, h9, h8, h7, h6, h5, h4, h3, h2, h1, h0, hl⟩ := hH
  have e0 : s b = Z.val s * Z.val s % pq := h0
  have e1 : s (b + 1) = Y.val s * Y.val s % pq := h1
  have e2 : s (b + 2) = X.val s * s (b + 1) % pq := h2
  have e3 : s (b + 3) = subq (X.val s) (s b) := h3
  have e4 : s (b + 4) = (X.val s + s b) % pq := h4
  have e5 : s (b + 5) = s (b + 3) * s (b + 4) % pq := h5
  have e6 : s (b + 6) = 3 * s (b + 5) % pq := h6
  have e7 : s (b + 7) = 4 * s (b + 2) % pq := h7
  have e8 : s (b + 8) = s (b + 6) * s (b + 6) % pq := h8
  have e9 : s (b + 9) = (s (b + 7) + s (b + 7)) % pq := h9
  have e10 : s (b + 10) = subq (s (b + 8)) (s (b + 9)) := h10
  have e11 : s (b + 11) = subq (s (b + 7)) (s (b + 10)) := h11
  have e12 : s (b + 12) = s (b + 6) * s (b + 11) % pq := h12
  have e13 : s (b + 13) = s (b + 1) * s (b + 1) % pq := h13
  have e14 : s (b + 14) = 8 * s (b + 13) % pq := h14
  have e15 : s (b + 15) = subq (s (b + 12)) (s (b + 14)) := h15
  have e16 : s (b + 16) = Y.val s * Z.val s % pq := h16
  have e17 : s (b + 17) = 2 * s (b + 16) % pq := h17
  refine ⟨⟨?_, by show s (b + 17) < pq; rw [e17]; exact Nat.mod_lt _ pq_pos⟩, hl⟩
  refine jtwice fine hp hj.1 (fi_fmul e0) (fi_fmul e1) ((fi_fmul e2)) (al := fi pp (s (b + 6))) ?_ (f := fi pp (s (b + 7))) ?_ ?_ ?_ ?_
  · rw [fi_fmul e6, fi_fmul e5, fi_fsub e3, fi_fadd e4]; rfl
  · rw [fi_fmul e7]; rfl
  · show fi pp (s (b + 10)) = _
    rw [fi_fsub e10, fi_fmul e8, fi_fadd e9]
  · show fi pp (s (b + 15)) = fi pp (s (b + 6)) * (fi pp (s (b + 7)) - fi pp (s (b + 10))) - _
    rw [fi_fsub e15, fi_fmul e12, fi_fsub e11, fi_fmul e14, fi_fmul e13]; rfl
  · show fi pp (s (b + 17)) = _
    rw [fi_fmul e17, fi_fmul e16]; rfl
theorem of_fi0 {a : Nat} (h : fi pp a = 0) (ha : a < pq) : a = 0 := by
  have := of_fi h (lt_pp ha)
  rwa [Fin.val_zero] at this
/-- The numbers of one more, up to the two tests. -/
theorem hrE_ok {s : Nums} (hH : Holds s 15 hrE) : s 7 = (if s 4 = 0 then 1 else 0) ∧ fi pp (s 8) = fi pp (s 4) * fi pp (s 4) ∧ fi pp (s 10) = fi pp (s 0) * fi pp (s 8) - fi pp (s 2) ∧ s 10 < pq ∧ fi pp (s 13) = fi pp (s 1) * (fi pp (s 4) * fi pp (s 8)) - fi pp (s 3) ∧ s 13 < pq ∧ s 14 = if s 10 = 0 then 1 else 0 := by
  obtain ⟨h14, h13, h12, h11, h10, h9, h8, h7, _⟩ := hH
  have e7 : s 7 = if s 4 = 0 then 1 else 0 := h7
  have e8 : s 8 = s 4 * s 4 % pq := h8
  have e9 : s 9 = s 0 * s 8 % pq := h9
  have e10 : s 10 = subq (s 9) (s 2) := h10
  have e11 : s 11 = s 4 * s 8 % pq := h11
  have e12 : s 12 = s 1 * s 11 % pq := h12
  have e13 : s 13 = subq (s 12) (s 3) := h13
  have e14 : s 14 = if s 10 = 0 then 1 else 0 := h14
  exact ⟨e7, fi_fmul e8, by rw [fi_fsub e10, fi_fmul e9], by rw [e10]; exact subq_lt _ _, by rw [fi_fsub e13, fi_fmul e12, fi_fmul e11], by rw [e13]; exact subq_lt _ _, e14⟩
theorem gE_ok {s : Nums} {g : Nat} {l : List Ex} {x y : Nat} {p : Pt pp} (h0 : s 0 = x) (h1 : s 1 = y) (hj : JN s (.v 2) (.v 3) (.v 4) p) (hz : s 4 ≠ 0) (hn : ¬ (s 10 = 0 ∧ s 13 = 0)) (hr : fi pp (s 8) = fi pp (s 4) * fi pp (s 4)) (h10 : fi pp (s 10) = fi pp (s 0) * fi pp (s 8) - fi pp (s 2)) (l10 : s 10 < pq)
    (h13 : fi pp (s 13) = fi pp (s 1) * (fi pp (s 4) * fi pp (s 8)) - fi pp (s 3)) (l13 : s 13 < pq) (hH : Holds s (g + 12) (gE g l)) : JN s (.v (g + 6)) (.v (g + 10)) (.v (g + 11)) (padd p (ptN x y)) := by
  obtain ⟨q11, q10, q9, q8, q7, q6, q5, q4, q3, q2, q1, q0, hl⟩ := hH
  have e0 : s g = s 10 * s 10 % pq := q0
  have e1 : s (g + 1) = s 10 * s g % pq := q1
  have e2 : s (g + 2) = s 2 * s g % pq := q2
  have e3 : s (g + 3) = s 13 * s 13 % pq := q3
  have e4 : s (g + 4) = subq (s (g + 3)) (s (g + 1)) := q4
  have e5 : s (g + 5) = (s (g + 2) + s (g + 2)) % pq := q5
  have e6 : s (g + 6) = subq (s (g + 4)) (s (g + 5)) := q6
  have e7 : s (g + 7) = subq (s (g + 2)) (s (g + 6)) := q7
  have e8 : s (g + 8) = s 13 * s (g + 7) % pq := q8
  have e9 : s (g + 9) = s 3 * s (g + 1) % pq := q9
  have e10 : s (g + 10) = subq (s (g + 8)) (s (g + 9)) := q10
  have e11 : s (g + 11) = s 4 * s 10 % pq := q11
  obtain ⟨hj, lz⟩ := hj
  have lz : s 4 < pq := lz
  have z0 : fi pp (s 4) ≠ 0 := fun e => hz (of_fi0 e lz)
  have hn' : ¬ (fi pp (s 10) = 0 ∧ fi pp (s 13) = 0) := fun ⟨a, b⟩ => hn ⟨of_fi0 a l10, of_fi0 b l13⟩
  rw [h0] at h10
  rw [h1] at h13
  refine ⟨?_, by show s (g + 11) < pq; rw [e11]; exact Nat.mod_lt _ pq_pos⟩
  refine jmore fine z0 hj hr h10 h13 hn' (fi_fmul e0) (fi_fmul e1) (fi_fmul e2) ?_ ?_ (fi_fmul e11)
  · show fi pp (s (g + 6)) = _
    rw [fi_fsub e6, fi_fsub e4, fi_fmul e3, fi_fadd e5]
  · show fi pp (s (g + 10)) = fi pp (s 13) * (fi pp (s (g + 2)) - fi pp (s (g + 6))) - _
    rw [fi_fsub e10, fi_fmul e8, fi_fsub e7, fi_fmul e9]; rfl
theorem bitE_ok {s : Nums} {j : Nat} (hH : Holds s 10 (bitE (j + 1))) : s 9 = s 5 / 2 ^ j % 2 := by
  obtain ⟨h9, h8, h7, _⟩ := hH
  have e7 : s 7 = s 5 / 2 ^ j := h7
  have e8 : s 8 = s 7 &&& 1 := h8
  have e9 : s 9 = if s 8 = 1 then 1 else 0 := h9
  have e8' : s 8 = s 7 % 2 := by rw [e8]; exact Nat.and_two_pow_sub_one_eq_mod _ 1
  rw [e9, e8', e7]
  have := Nat.mod_two_eq_zero_or_one (s 5 / 2 ^ j)
  rcases this with h | h <;> rw [h] <;> rfl
theorem jaff {x y z : Fin pp} {a c : Fin pp} (hj : JRep x y z (.pt a c)) : x * (finv z * finv z) = a ∧ y * (finv z * finv z * finv z) = c := by
  obtain ⟨z0, ex, ey⟩ := hj
  have hi := mul_finv fine.prime z0
  generalize finv z = i at hi ⊢
  constructor
  · rw [ex]
    have : a * (z * z) * (i * i) = a * ((z * i) * (z * i)) := by grind
    rw [this, hi, Fin.mul_one, Fin.mul_one]
  · rw [ey]
    have : c * (z * (z * z)) * (i * i * i) = c * ((z * i) * ((z * i) * (z * i))) := by grind
    rw [this, hi, Fin.mul_one, Fin.mul_one, Fin.mul_one]
end P224
