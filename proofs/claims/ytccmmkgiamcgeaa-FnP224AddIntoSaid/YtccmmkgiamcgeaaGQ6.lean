/- The package's Double of a point by its bytes, into a new one and into itself. PRINTED BY A PROGRAM OF MY OWN (gen/mk30.py). -/
import Derived.Test.YtccmmkgiamcgeaaGQ1
import Derived.Test.YtccmmkgiamcgeaaGQ3
set_option linter.all false
namespace P224
open Go Go.RowKit Go.Proofs
set_option maxRecDepth 100000
set_option linter.unusedVariables false
theorem dbl_nums {X1 Y1 Z1 : Nat} {p : Pt pp} (hp : OnC bb p) (ht : Rep (toTri pp (X1, Y1, Z1)) p) {X Y Z : Nat}
    (hX : X = sxN pq bq X1 Y1 Z1 X1 Y1 Z1) (hY : Y = syN pq bq X1 Y1 Z1 X1 Y1 Z1) (hZ : Z = 8 * (Y1 * Y1 * Y1) * Z1 % pq) :
    (padd p p = .far → Z = 0) ∧ (padd p p ≠ .far → Z ≠ 0 ∧ X * finvq Z % pq = xOf (padd p p) ∧ Y * finvq Z % pq = yOf (padd p p)) := by
  rcases dbl_aff hp ht hX hY hZ with ⟨h1, h2, h3⟩ | ⟨h1, h2, h3, h4, h5⟩
  · exact ⟨fun _ => h3, fun h => absurd h2 h⟩
  · exact ⟨fun h => (by rw [h] at h1; cases h1), fun _ => ⟨h3, h4, h5⟩⟩
/-- Twice a point is not far. -/
theorem dbl_far {x y : Nat} (hy : y < pq) (hon : onN x y = 1) : padd (ptN x y) (ptN x y) ≠ .far := by
  have hc := onN_on hon
  have hy0 : y ≠ 0 := fun e => fine.y_ne hc (by rw [e]; rfl)
  intro h
  have h1 : ¬ (fi pp x ≠ fi pp x) := fun h => h rfl
  have h2 : ¬ (fi pp y ≠ fi pp y ∨ fi pp y = 0) := fun h => by
    rcases h with h | h
    · exact h rfl
    · exact fi_ne (lt_pp hy) hy0 h
  unfold ptN padd at h
  simp only [h1, h2, if_false] at h
  cases h
def ex30N : List Ex := [
.fmul (.v 9) (.v 14),
.fcst 0,
.fmul (.v 8) (.v 14),
.fcst 0,
.finv (.v 10),
.fcst 0,
.feq (.v 11) (.c 1),
.feq (.v 10) (.c 0),
.op 18 [(.v 1), (.v 3)],
.op 16 [(.v 0), (.v 1), (.v 3), (.v 0), (.v 1), (.v 3)],
.op 15 [(.v 0), (.v 1), (.v 3), (.v 0), (.v 1), (.v 3)],
.fcst 0,
.fcst 1,
.fcst 0,
.fcst 0,
.fcst 1,
.op 20 [(.v 0), (.v 1)]]
def dec30N : List (Nat × Bool) := [(2, true), (11, false), (12, false)]
def fix30N : Fix := fixD 17 1 [] [] dec30N
def br30N : BriefR := ⟨.ret, 19, ex30N, [], [.one (.slc 9 0 57 57), .one (.lit (.bool true))], [some (ptRow 16 18)]⟩
theorem run30N : briefR (tabX true pointPrims xm4) Try.f30 [9] (runF (tabX true pointPrims xm4) fix30N 3000 Try.f30 (startSt [.one (.sl 0 0 57)] [(0, ptRow 0 1)] 2 1)) = some br30N := by kernel_rfl
theorem law30N {s : Nums} {x0 y0 : Nat} (g0 : s 0 = x0) (g1 : s 1 = y0) (lx0 : x0 < pq) (ly0 : y0 < pq) (hon0 : onN x0 y0 = 1) (hfar : padd (ptN x0 y0) (ptN x0 y0) ≠ .far) (h : Holds s 19 ex30N) : s 2 = 1 ∧ s 11 = 0 ∧ s 12 = 0 ∧ s 16 = xOf (padd (ptN x0 y0) (ptN x0 y0)) ∧ s 18 = yOf (padd (ptN x0 y0) (ptN x0 y0)) := by
  obtain ⟨h18, h17, h16, h15, h14, h13, h12, h11, h10, h9, h8, h7, h6, h5, h4, h3, h2, _⟩ := h
  have e18 : s 18 = s 9 * s 14 % pq := h18
  have e17 : s 17 = 0 := (show s 17 = 0 % pq from h17).trans (Nat.zero_mod _)
  have e16 : s 16 = s 8 * s 14 % pq := h16
  have e15 : s 15 = 0 := (show s 15 = 0 % pq from h15).trans (Nat.zero_mod _)
  have e14 : s 14 = finvq (s 10) := h14
  have e13 : s 13 = 0 := (show s 13 = 0 % pq from h13).trans (Nat.zero_mod _)
  have e12 : s 12 = if s 11 = 1 then 1 else 0 := h12
  have e11 : s 11 = if s 10 = 0 then 1 else 0 := h11
  have e10 : s 10 = 8 * (s 1 * s 1 * s 1) * s 3 % pq := h10
  have e9 : s 9 = syN pq bq (s 0) (s 1) (s 3) (s 0) (s 1) (s 3) := h9
  have e8 : s 8 = sxN pq bq (s 0) (s 1) (s 3) (s 0) (s 1) (s 3) := h8
  have e7 : s 7 = 0 := (show s 7 = 0 % pq from h7).trans (Nat.zero_mod _)
  have e6 : s 6 = 1 := (show s 6 = 1 % pq from h6).trans mod_one_pq
  have e5 : s 5 = 0 := (show s 5 = 0 % pq from h5).trans (Nat.zero_mod _)
  have e4 : s 4 = 0 := (show s 4 = 0 % pq from h4).trans (Nat.zero_mod _)
  have e3 : s 3 = 1 := (show s 3 = 1 % pq from h3).trans mod_one_pq
  have e2 : s 2 = onN (s 0) (s 1) := h2
  rw [g0, g1, e3] at e8 e9
  rw [g1, e3] at e10
  have key := dbl_nums (onN_on hon0) (rep_one fine x0 y0) e8 e9 e10
  obtain ⟨k0, k1, k2⟩ := key.2 hfar
  rw [if_neg k0] at e11
  rw [if_neg (by rw [e11]; decide)] at e12
  rw [e14, k1] at e16
  rw [e14, k2] at e18
  rw [g0, g1, hon0] at e2
  exact ⟨e2, e11, e12, e16, e18⟩

def ex30f : List Ex := [
.feq (.v 15) (.c 1),
.feq (.v 14) (.c 0),
.op 18 [(.v 6), (.v 7)],
.op 16 [(.v 4), (.v 6), (.v 7), (.v 4), (.v 6), (.v 7)],
.op 15 [(.v 4), (.v 6), (.v 7), (.v 4), (.v 6), (.v 7)],
.fcst 0,
.fcst 1,
.fcst 0,
.fcst 0,
.fcst 0,
.fcst 1,
.fcst 0,
.fcst 0,
.fcst 0,
.fcst 1,
.fcst 0,
.fcst 0]
def dec30f : List (Nat × Bool) := [(15, true), (16, true)]
def fix30f : Fix := fixD 17 1 [] [] dec30f
def br30f : BriefR := ⟨.ret, 17, ex30f, [], [.one (.slc 15 0 1 57), .one (.lit (.bool true))], [some (farRow)]⟩
theorem run30f : briefR (tabX true pointPrims xm4) Try.f30 [15] (runF (tabX true pointPrims xm4) fix30f 3000 Try.f30 (startSt [.one (.sl 0 0 1)] [(0, [.lit (.int .u8 0)])] 0 1)) = some br30f := by kernel_rfl
theorem law30f {s : Nums} (hfar : padd (.far : Pt pp) .far = .far) (h : Holds s 17 ex30f) : s 15 = 1 ∧ s 16 = 1 := by
  obtain ⟨h16, h15, h14, h13, h12, h11, h10, h9, h8, h7, h6, h5, h4, h3, h2, h1, h0, _⟩ := h
  have e16 : s 16 = if s 15 = 1 then 1 else 0 := h16
  have e15 : s 15 = if s 14 = 0 then 1 else 0 := h15
  have e14 : s 14 = 8 * (s 6 * s 6 * s 6) * s 7 % pq := h14
  have e13 : s 13 = syN pq bq (s 4) (s 6) (s 7) (s 4) (s 6) (s 7) := h13
  have e12 : s 12 = sxN pq bq (s 4) (s 6) (s 7) (s 4) (s 6) (s 7) := h12
  have e11 : s 11 = 0 := (show s 11 = 0 % pq from h11).trans (Nat.zero_mod _)
  have e10 : s 10 = 1 := (show s 10 = 1 % pq from h10).trans mod_one_pq
  have e9 : s 9 = 0 := (show s 9 = 0 % pq from h9).trans (Nat.zero_mod _)
  have e8 : s 8 = 0 := (show s 8 = 0 % pq from h8).trans (Nat.zero_mod _)
  have e7 : s 7 = 0 := (show s 7 = 0 % pq from h7).trans (Nat.zero_mod _)
  have e6 : s 6 = 1 := (show s 6 = 1 % pq from h6).trans mod_one_pq
  have e5 : s 5 = 0 := (show s 5 = 0 % pq from h5).trans (Nat.zero_mod _)
  have e4 : s 4 = 0 := (show s 4 = 0 % pq from h4).trans (Nat.zero_mod _)
  have e3 : s 3 = 0 := (show s 3 = 0 % pq from h3).trans (Nat.zero_mod _)
  have e2 : s 2 = 1 := (show s 2 = 1 % pq from h2).trans mod_one_pq
  have e1 : s 1 = 0 := (show s 1 = 0 % pq from h1).trans (Nat.zero_mod _)
  have e0 : s 0 = 0 := (show s 0 = 0 % pq from h0).trans (Nat.zero_mod _)
  rw [e4, e6, e7] at e12 e13
  rw [e6, e7] at e14
  have key := dbl_nums far_on (rep_zero fine) e12 e13 e14
  have k0 := key.1 hfar
  rw [if_pos k0] at e15
  rw [if_pos e15] at e16
  exact ⟨e15, e16⟩

def ex31N : List Ex := [
.fmul (.v 5) (.v 10),
.fcst 0,
.fmul (.v 4) (.v 10),
.fcst 0,
.finv (.v 6),
.fcst 0,
.feq (.v 7) (.c 1),
.feq (.v 6) (.c 0),
.op 18 [(.v 1), (.v 3)],
.op 16 [(.v 0), (.v 1), (.v 3), (.v 0), (.v 1), (.v 3)],
.op 15 [(.v 0), (.v 1), (.v 3), (.v 0), (.v 1), (.v 3)],
.fcst 1,
.op 20 [(.v 0), (.v 1)]]
def dec31N : List (Nat × Bool) := [(2, true), (7, false), (8, false)]
def fix31N : Fix := fixD 17 1 [] [] dec31N
def br31N : BriefR := ⟨.ret, 15, ex31N, [], [.one (.slc 5 0 57 57), .one (.lit (.bool true))], [some (ptRow 12 14)]⟩
theorem run31N : briefR (tabX true pointPrims xm4) Try.f31 [5] (runF (tabX true pointPrims xm4) fix31N 3000 Try.f31 (startSt [.one (.sl 0 0 57)] [(0, ptRow 0 1)] 2 1)) = some br31N := by kernel_rfl
theorem law31N {s : Nums} {x0 y0 : Nat} (g0 : s 0 = x0) (g1 : s 1 = y0) (lx0 : x0 < pq) (ly0 : y0 < pq) (hon0 : onN x0 y0 = 1) (hfar : padd (ptN x0 y0) (ptN x0 y0) ≠ .far) (h : Holds s 15 ex31N) : s 2 = 1 ∧ s 7 = 0 ∧ s 8 = 0 ∧ s 12 = xOf (padd (ptN x0 y0) (ptN x0 y0)) ∧ s 14 = yOf (padd (ptN x0 y0) (ptN x0 y0)) := by
  obtain ⟨h14, h13, h12, h11, h10, h9, h8, h7, h6, h5, h4, h3, h2, _⟩ := h
  have e14 : s 14 = s 5 * s 10 % pq := h14
  have e13 : s 13 = 0 := (show s 13 = 0 % pq from h13).trans (Nat.zero_mod _)
  have e12 : s 12 = s 4 * s 10 % pq := h12
  have e11 : s 11 = 0 := (show s 11 = 0 % pq from h11).trans (Nat.zero_mod _)
  have e10 : s 10 = finvq (s 6) := h10
  have e9 : s 9 = 0 := (show s 9 = 0 % pq from h9).trans (Nat.zero_mod _)
  have e8 : s 8 = if s 7 = 1 then 1 else 0 := h8
  have e7 : s 7 = if s 6 = 0 then 1 else 0 := h7
  have e6 : s 6 = 8 * (s 1 * s 1 * s 1) * s 3 % pq := h6
  have e5 : s 5 = syN pq bq (s 0) (s 1) (s 3) (s 0) (s 1) (s 3) := h5
  have e4 : s 4 = sxN pq bq (s 0) (s 1) (s 3) (s 0) (s 1) (s 3) := h4
  have e3 : s 3 = 1 := (show s 3 = 1 % pq from h3).trans mod_one_pq
  have e2 : s 2 = onN (s 0) (s 1) := h2
  rw [g0, g1, e3] at e4 e5
  rw [g1, e3] at e6
  have key := dbl_nums (onN_on hon0) (rep_one fine x0 y0) e4 e5 e6
  obtain ⟨k0, k1, k2⟩ := key.2 hfar
  rw [if_neg k0] at e7
  rw [if_neg (by rw [e7]; decide)] at e8
  rw [e10, k1] at e12
  rw [e10, k2] at e14
  rw [g0, g1, hon0] at e2
  exact ⟨e2, e7, e8, e12, e14⟩

def ex31f : List Ex := [
.feq (.v 11) (.c 1),
.feq (.v 10) (.c 0),
.op 18 [(.v 6), (.v 7)],
.op 16 [(.v 4), (.v 6), (.v 7), (.v 4), (.v 6), (.v 7)],
.op 15 [(.v 4), (.v 6), (.v 7), (.v 4), (.v 6), (.v 7)],
.fcst 0,
.fcst 1,
.fcst 0,
.fcst 0,
.fcst 0,
.fcst 1,
.fcst 0,
.fcst 0]
def dec31f : List (Nat × Bool) := [(11, true), (12, true)]
def fix31f : Fix := fixD 17 1 [] [] dec31f
def br31f : BriefR := ⟨.ret, 13, ex31f, [], [.one (.slc 11 0 1 57), .one (.lit (.bool true))], [some (farRow)]⟩
theorem run31f : briefR (tabX true pointPrims xm4) Try.f31 [11] (runF (tabX true pointPrims xm4) fix31f 3000 Try.f31 (startSt [.one (.sl 0 0 1)] [(0, [.lit (.int .u8 0)])] 0 1)) = some br31f := by kernel_rfl
theorem law31f {s : Nums} (hfar : padd (.far : Pt pp) .far = .far) (h : Holds s 13 ex31f) : s 11 = 1 ∧ s 12 = 1 := by
  obtain ⟨h12, h11, h10, h9, h8, h7, h6, h5, h4, h3, h2, h1, h0, _⟩ := h
  have e12 : s 12 = if s 11 = 1 then 1 else 0 := h12
  have e11 : s 11 = if s 10 = 0 then 1 else 0 := h11
  have e10 : s 10 = 8 * (s 6 * s 6 * s 6) * s 7 % pq := h10
  have e9 : s 9 = syN pq bq (s 4) (s 6) (s 7) (s 4) (s 6) (s 7) := h9
  have e8 : s 8 = sxN pq bq (s 4) (s 6) (s 7) (s 4) (s 6) (s 7) := h8
  have e7 : s 7 = 0 := (show s 7 = 0 % pq from h7).trans (Nat.zero_mod _)
  have e6 : s 6 = 1 := (show s 6 = 1 % pq from h6).trans mod_one_pq
  have e5 : s 5 = 0 := (show s 5 = 0 % pq from h5).trans (Nat.zero_mod _)
  have e4 : s 4 = 0 := (show s 4 = 0 % pq from h4).trans (Nat.zero_mod _)
  have e3 : s 3 = 0 := (show s 3 = 0 % pq from h3).trans (Nat.zero_mod _)
  have e2 : s 2 = 1 := (show s 2 = 1 % pq from h2).trans mod_one_pq
  have e1 : s 1 = 0 := (show s 1 = 0 % pq from h1).trans (Nat.zero_mod _)
  have e0 : s 0 = 0 := (show s 0 = 0 % pq from h0).trans (Nat.zero_mod _)
  rw [e4, e6, e7] at e8 e9
  rw [e6, e7] at e10
  have key := dbl_nums far_on (rep_zero fine) e8 e9 e10
  have k0 := key.1 hfar
  rw [if_pos k0] at e11
  rw [if_pos e11] at e12
  exact ⟨e11, e12⟩

theorem meets30 (w : World) (v1 : Value) {p : Pt pp} (h1 : PtAt w v1 p) : Meets Try.prog 30 #[v1] w (OutPt w (padd p p)) := by
  refine meets_of_calls Try.func30 (by kernel_rfl) (by kernel_rfl) ?_
  cases h1 with
  | far b0 o0 c0 hv0 hc0 hp0 =>
    subst hv0
    have lt0 : b0 < w.heap.size := World.block_lt_of_cell? w _ hp0
    have hfar : padd (.far : Pt pp) .far = .far := rfl
    refine calls_briefR (F := fix30f) (tabX_ok pointPrims_ok xm4_ok) run30f Try.func30 Try.ntmps30 rfl (by decide +kernel) (by decide +kernel) (by decide +kernel) (show 1 ≤ 17 by decide) (show 1 < 4095 by decide) (fun _ => 0) (fun r =>  (b0, o0))
      (vals := [_]) (fun s hs => ⟨⟨c0, hc0, rfl, show 0 < 1 by decide⟩, trivial⟩) (fun s hs => ⟨show 0 < 1 by decide, ⟨⟨_, hp0, rfl⟩, trivial⟩, trivial⟩) (fun r l hl hr => by cases hr) (fun r _ => lt0) (fun r q _ _ h => by cases h) ?_ ?_
    · intro s hs hH i bb hb
      obtain ⟨q0, q1⟩ := law30f hfar hH
      have := findT_mem (show findT i dec30f = some bb from hb)
      simp only [dec30f, List.mem_cons, List.not_mem_nil, or_false, Prod.mk.injEq] at this
      rcases this with ⟨rfl, rfl⟩ | ⟨rfl, rfl⟩ <;> assumption
    · intro s hs hH st' β' a' w' v hv hm hag hr hbe
      obtain ⟨q0, q1⟩ := law30f hfar hH
      injection (show [lookup 15 st'.mem] = [some farRow] from hm) with hm
      exact ⟨_, rfl, _, out_far hv, (newAt_far hr (l := List.replicate 56 (.lit (.int .u8 0))) hm (show 1 ≤ 15 by decide) hbe rfl).of_eq hfar⟩
  | on b0 o0 c0 x0 y0 hv0 hc0 hp0 lx0 ly0 hon0 =>
    subst hv0
    have lt0 : b0 < w.heap.size := World.block_lt_of_cell? w _ (hp0 0 4 rfl)
    have hfar := dbl_far ly0 hon0
    refine calls_briefR (F := fix30N) (tabX_ok pointPrims_ok xm4_ok) run30N Try.func30 Try.ntmps30 rfl (by decide +kernel) (by decide +kernel) (by decide +kernel) (show 1 ≤ 17 by decide) (show 1 < 4095 by decide) (fun i => if i = 0 then x0 else y0) (fun r =>  (b0, o0))
      (vals := [_]) (fun s hs => ⟨⟨c0, hc0, rfl, show 0 < 1 by decide⟩, trivial⟩) (fun s hs => ⟨show 0 < 1 by decide, ptRow_row rfl hp0 (hs 0 (by decide)) (hs 1 (by decide)) lx0 ly0, trivial⟩) (fun r l hl hr => by cases hr) (fun r _ => lt0) (fun r q _ _ h => by cases h) ?_ ?_
    · intro s hs hH i bb hb
      obtain ⟨q0, q1, q2, q3, q4⟩ := law30N (hs 0 (by decide)) (hs 1 (by decide)) lx0 ly0 hon0 hfar hH
      have := findT_mem (show findT i dec30N = some bb from hb)
      simp only [dec30N, List.mem_cons, List.not_mem_nil, or_false, Prod.mk.injEq] at this
      rcases this with ⟨rfl, rfl⟩ | ⟨rfl, rfl⟩ | ⟨rfl, rfl⟩ <;> assumption
    · intro s hs hH st' β' a' w' v hv hm hag hr hbe
      obtain ⟨q0, q1, q2, q3, q4⟩ := law30N (hs 0 (by decide)) (hs 1 (by decide)) lx0 ly0 hon0 hfar hH
      injection (show [lookup 9 st'.mem] = [some (ptRow 16 18)] from hm) with hm
      exact ⟨_, rfl, _, out_on hv, (newAt_on hr hm (show 1 ≤ 9 by decide) hbe q3 q4 (xOf_lt _) (yOf_lt _) rfl).of_eq (on_eq hfar)⟩
theorem meets31 (w : World) (v1 : Value) {p : Pt pp} (h1 : PtAt w v1 p) : Meets Try.prog 31 #[v1] w (OutPt w (padd p p)) := by
  refine meets_of_calls Try.func31 (by kernel_rfl) (by kernel_rfl) ?_
  cases h1 with
  | far b0 o0 c0 hv0 hc0 hp0 =>
    subst hv0
    have lt0 : b0 < w.heap.size := World.block_lt_of_cell? w _ hp0
    have hfar : padd (.far : Pt pp) .far = .far := rfl
    refine calls_briefR (F := fix31f) (tabX_ok pointPrims_ok xm4_ok) run31f Try.func31 Try.ntmps31 rfl (by decide +kernel) (by decide +kernel) (by decide +kernel) (show 1 ≤ 17 by decide) (show 1 < 4095 by decide) (fun _ => 0) (fun r =>  (b0, o0))
      (vals := [_]) (fun s hs => ⟨⟨c0, hc0, rfl, show 0 < 1 by decide⟩, trivial⟩) (fun s hs => ⟨show 0 < 1 by decide, ⟨⟨_, hp0, rfl⟩, trivial⟩, trivial⟩) (fun r l hl hr => by cases hr) (fun r _ => lt0) (fun r q _ _ h => by cases h) ?_ ?_
    · intro s hs hH i bb hb
      obtain ⟨q0, q1⟩ := law31f hfar hH
      have := findT_mem (show findT i dec31f = some bb from hb)
      simp only [dec31f, List.mem_cons, List.not_mem_nil, or_false, Prod.mk.injEq] at this
      rcases this with ⟨rfl, rfl⟩ | ⟨rfl, rfl⟩ <;> assumption
    · intro s hs hH st' β' a' w' v hv hm hag hr hbe
      obtain ⟨q0, q1⟩ := law31f hfar hH
      injection (show [lookup 11 st'.mem] = [some farRow] from hm) with hm
      exact ⟨_, rfl, _, out_far hv, (newAt_far hr (l := List.replicate 56 (.lit (.int .u8 0))) hm (show 1 ≤ 11 by decide) hbe rfl).of_eq hfar⟩
  | on b0 o0 c0 x0 y0 hv0 hc0 hp0 lx0 ly0 hon0 =>
    subst hv0
    have lt0 : b0 < w.heap.size := World.block_lt_of_cell? w _ (hp0 0 4 rfl)
    have hfar := dbl_far ly0 hon0
    refine calls_briefR (F := fix31N) (tabX_ok pointPrims_ok xm4_ok) run31N Try.func31 Try.ntmps31 rfl (by decide +kernel) (by decide +kernel) (by decide +kernel) (show 1 ≤ 17 by decide) (show 1 < 4095 by decide) (fun i => if i = 0 then x0 else y0) (fun r =>  (b0, o0))
      (vals := [_]) (fun s hs => ⟨⟨c0, hc0, rfl, show 0 < 1 by decide⟩, trivial⟩) (fun s hs => ⟨show 0 < 1 by decide, ptRow_row rfl hp0 (hs 0 (by decide)) (hs 1 (by decide)) lx0 ly0, trivial⟩) (fun r l hl hr => by cases hr) (fun r _ => lt0) (fun r q _ _ h => by cases h) ?_ ?_
    · intro s hs hH i bb hb
      obtain ⟨q0, q1, q2, q3, q4⟩ := law31N (hs 0 (by decide)) (hs 1 (by decide)) lx0 ly0 hon0 hfar hH
      have := findT_mem (show findT i dec31N = some bb from hb)
      simp only [dec31N, List.mem_cons, List.not_mem_nil, or_false, Prod.mk.injEq] at this
      rcases this with ⟨rfl, rfl⟩ | ⟨rfl, rfl⟩ | ⟨rfl, rfl⟩ <;> assumption
    · intro s hs hH st' β' a' w' v hv hm hag hr hbe
      obtain ⟨q0, q1, q2, q3, q4⟩ := law31N (hs 0 (by decide)) (hs 1 (by decide)) lx0 ly0 hon0 hfar hH
      injection (show [lookup 5 st'.mem] = [some (ptRow 12 14)] from hm) with hm
      exact ⟨_, rfl, _, out_on hv, (newAt_on hr hm (show 1 ≤ 5 by decide) hbe q3 q4 (xOf_lt _) (yOf_lt _) rfl).of_eq (on_eq hfar)⟩

def dblR : Option (Nat × Nat) → PR
  | none => .far
  | some (i, j) => .new (.op 21 (v4 i j i j)) (.op 22 (v4 i j i j)) (.op 23 (v4 i j i j))
theorem dblR_is {s : Nums} {p : Option (Nat × Nat)} (hp : Valid s p) : (dblR p).is s (padd (ptOf s p) (ptOf s p)) := by
  match p with
  | none => exact rfl
  | some (i, j) => exact ⟨rfl, rfl, rfl⟩
def x30 : X := x1P dblR
theorem x30_ok : XOk Try.prog 30 x30 := x1P_ok (fun w v1 p h1 => meets30 w v1 h1) fun s p hp => dblR_is hp
def x31 : X := x1P dblR
theorem x31_ok : XOk Try.prog 31 x31 := x1P_ok (fun w v1 p h1 => meets31 w v1 h1) fun s p hp => dblR_is hp
end P224
/- The laws' table, with the package's Add and Double and the reference's Sum by contract. -/
namespace P224
open Go Go.RowKit Go.Proofs
set_option maxRecDepth 100000
set_option linter.unusedVariables false
noncomputable def with1Z (xs : List (Nat × X)) (f : Nat) (fn : Func) : List (Nat × X) := (f, inlX (tabZ xs) 2000 fn) :: xs
theorem with1Z_ok {xs : List (Nat × X)} (hx : XsOk xs) {f : Nat} {fn : Func} (hf : Try.prog.funcs[f]? = some fn) (hn : (fn.name == "runtime.NumGoroutine") = false) : XsOk (with1Z xs f fn) :=
  xcons_ok (inlX_ok (tabZ_ok hx) 2000 hf hn) hx
noncomputable def xw0 : List (Nat × X) := (30, x30) :: (31, x31) :: xy0
theorem xw0_ok : XsOk xw0 := xcons_ok x30_ok (xcons_ok x31_ok xy0_ok)
noncomputable def xw1 : List (Nat × X) := with1Z (with1Z (with1Z (with1Z xw0 37 Try.f37) 33 Try.f33) 40 Try.f40) 38 Try.f38
theorem xw1_ok : XsOk xw1 := with1Z_ok (with1Z_ok (with1Z_ok (with1Z_ok xw0_ok Try.func37 (by kernel_rfl)) Try.func33 (by kernel_rfl)) Try.func40 (by kernel_rfl)) Try.func38 (by kernel_rfl)
end P224
/- Small facts on sums of points, as numbers. -/
namespace P224
open Go Go.RowKit Go.Proofs
set_option maxRecDepth 100000
set_option linter.unusedVariables false
theorem on_onN {x y : Nat} (h : OnC bb (ptN x y)) : onN x y = 1 := by
  unfold onN
  exact if_pos h
theorem on_ofP {p : Pt pp} (h : OnC bb p) (hn : farOf p = 0) : onN (xOf p) (yOf p) = 1 := by
  have he : p = ptN (xOf p) (yOf p) := on_eq fun e => by rw [e] at hn; cases hn
  exact on_onN (he ▸ h)
theorem on_add {x0 y0 x1 y1 : Nat} (h0 : onN x0 y0 = 1) (h1 : onN x1 y1 = 1) (hn : farOf (addN x0 y0 x1 y1) = 0) : onN (xOf (addN x0 y0 x1 y1)) (yOf (addN x0 y0 x1 y1)) = 1 :=
  on_ofP (padd_on fine (onN_on h0) (onN_on h1)) hn
theorem dbl_farOf {x y : Nat} (hy : y < pq) (hon : onN x y = 1) : farOf (addN x y x y) = 0 := by
  rcases farOf_cases (addN x y x y) with ⟨_, h⟩ | ⟨h, _⟩
  · exact absurd h (dbl_far hy hon)
  · exact h
end P224
/- More operations: equality of bools. -/
namespace P224
open Go Go.RowKit Go.Proofs
set_option maxRecDepth 100000
set_option linter.unusedVariables false

theorem guard_bool {P : Program} (op : BinOp) (t : TypeId) (ox oy : Operand) (a b : Bool) (w : World) : (eqGuard op t ox oy (.bool a) (.bool b)).run P w = .ok () w := by
  cases op <;> rfl
theorem bool_eql_run {P : Program} {t : TypeId} (hu : P.underlying t = some .bool) (a b : Bool) (w : World) : (binOp .eql t (.bool a) (.bool b)).run P w = .ok (.bool (a == b)) w := by
  have h : ∀ d : Nat, (Op.equalIn (d + 1) t (.bool a) (.bool b)).run P w = .ok (a == b) w := fun d => by
    simp [Op.equalIn, run_underlying hu]
  simp only [binOp]
  simp [Op.equal, Op.maxDepth, h 9999]

/-- Are two bools the same? -/
def qBool : Qx := fun F _ st op => match op with
  | .binOp .eql t x y _ => bif t == 4 then (match st.ev x, st.ev y with
    | .one (.lit (.bool a)), .one (.lit (.bool b)) => some (.one (.lit (.bool (a == b))), [])
    | .one (.bl i), .one (.lit (.bool b)) => match F.dec i with
      | some a => some (.one (.lit (.bool (a == b))), [])
      | none => none
    | .one (.lit (.bool b)), .one (.bl i) => match F.dec i with
      | some a => some (.one (.lit (.bool (b == a))), [])
      | none => none
    | .one (.bl i), .one (.bl j) => match F.dec i, F.dec j with
      | some a, some b => some (.one (.lit (.bool (a == b))), [])
      | _, _ => none
    | _, _ => none) else none
  | _ => none
theorem bl_dec {s : Nums} {β : Places} {n : Nat} {F : Fix} {i : Nat} {b : Bool} {v : Value} (hd : Dec F s) (h : F.dec i = some b) (hr : (A0.bl i).rep s β n v) : v = .bool b := by
  obtain ⟨h1, _⟩ := hr
  rw [h1, hd i b h]
  cases b <;> rfl
theorem qBool_ok : QextOk Try.prog qBool := by
  intro s β F L st a o av l m hd h ht hH w0 hw0
  unfold qBool at h
  split at h
  · rename_i t x y t' ho
    obtain ⟨h4, h⟩ := bif_some h
    have h4 := beq_iff_eq.1 h4
    subst h4
    have hx := ev_rep ht x
    have hy := ev_rep ht y
    have main : ∀ p q : Bool, a.eval x = .bool p → a.eval y = .bool q → ∃ u, (AV.one (.lit (.bool (p == q)))).rep s β st.nr u ∧ ∀ w, Reads s β st.nr L st.mem w → (execOp a.eval o).run Try.prog w = .ok (.value u) w := fun p q hp hq => by
      refine ⟨_, rfl, fun w _ => ?_⟩
      simp only [execOp, ho, hp, hq, Sem.run_bind, guard_bool, Result.andThen, bool_eql_run Try.underlying4, Sem.run_pure]
    split at h
    · rename_i p q h1 h2
      cases h
      rw [h1] at hx
      rw [h2] at hy
      exact main p q hx hy
    · rename_i i q h1 h2
      rw [h1] at hx
      rw [h2] at hy
      split at h
      · rename_i p hp
        cases h
        exact main p q (bl_dec (β := β) (n := st.nr) hd hp hx) hy
      · cases h
    · rename_i p j h1 h2
      rw [h1] at hx
      rw [h2] at hy
      split at h
      · rename_i q hq
        cases h
        exact main p q hx (bl_dec (β := β) (n := st.nr) hd hq hy)
      · cases h
    · rename_i i j h1 h2
      rw [h1] at hx
      rw [h2] at hy
      split at h
      · rename_i p q hp hq
        cases h
        exact main p q (bl_dec (β := β) (n := st.nr) hd hp hx) (bl_dec (β := β) (n := st.nr) hd hq hy)
      · cases h
    · cases h
  · cases h

/-- The rest of a byte by 3, told by which number it is. -/
def remL (i n : Nat) : List Ex := [.feq (.v n) (.c 1), .feq (.v n) (.c 0), .op 28 [.v i, .c 3]]
def qRem : Qx := fun F _ st op => match op with
  | .binOp .rem t x (.const (.int .u8 3)) _ => match st.ev x with
    | .one (.num .u8 i) => match F.dec (st.nx + 1), F.dec (st.nx + 2) with
      | some true, _ => some (.one (.lit (.int .u8 0)), remL i st.nx)
      | some false, some true => some (.one (.lit (.int .u8 1)), remL i st.nx)
      | some false, some false => some (.one (.lit (.int .u8 2)), remL i st.nx)
      | _, _ => none
    | _ => none
  | _ => none
theorem rem_run {P : Program} (t : TypeId) (n r : Nat) (h : n % 3 = r) (w : World) : (binOp .rem t (.int .u8 (n : Int)) (.int .u8 3)).run P w = .ok (.int .u8 (r : Int)) w := by
  have h1 := litBin_run (P := P) (op := .rem) (k := .u8) (a := (n : Int)) (b := 3) (v := .int .u8 ((n : Int).tmod 3)) rfl t w
  have h2 : (n : Int).tmod 3 = (r : Int) := by
    rw [Int.tmod_eq_emod_of_nonneg (by omega)]
    omega
  rw [h1, h2]
theorem qRem_ok {P : Program} : QextOk P qRem := by
  intro s β F L st a o av l m hd h ht hH w0 hw0
  unfold qRem at h
  split at h
  · rename_i t x t' ho
    split at h
    · rename_i i hx
      have hr := ev_rep ht x
      rw [hx] at hr
      obtain ⟨hv, _⟩ := hr
      have fin : ∀ r : Nat, av = .one (.lit (.int .u8 (r : Int))) → s i % 3 = r → ∃ u, av.rep s β st.nr u ∧ ∀ w, Reads s β st.nr L st.mem w → (execOp a.eval o).run P w = .ok (.value u) w := fun r e hmod => by
        subst e
        refine ⟨_, rfl, fun w _ => ?_⟩
        have hc : a.eval (.const (.int .u8 3)) = .int .u8 3 := rfl
        simp only [execOp, ho, hv, hc, Sem.run_bind, guard_int, Result.andThen, rem_run t _ _ hmod, Sem.run_pure]
      have facts : ∀ l', l' = remL i st.nx → Holds s (st.nx + l'.length) (l' ++ m) → s (st.nx + 2) = (if s st.nx = 1 then 1 else 0) ∧ s (st.nx + 1) = (if s st.nx = 0 then 1 else 0) ∧ s st.nx = s i % 3 := fun l' e hh => by
        subst e
        exact ⟨hh.1, hh.2.1, hh.2.2.1⟩
      split at h
      · rename_i h1
        cases h
        obtain ⟨e2, e1, e0⟩ := facts _ rfl hH
        have d1 := hd _ _ h1
        refine fin 0 rfl ?_
        rw [← e0]
        rw [d1] at e1
        by_cases hz : s st.nx = 0
        · exact hz
        · rw [if_neg hz] at e1; cases e1
      · rename_i h1 h2
        cases h
        obtain ⟨e2, e1, e0⟩ := facts _ rfl hH
        have d2 := hd _ _ h2
        refine fin 1 rfl ?_
        rw [← e0]
        rw [d2] at e2
        by_cases hz : s st.nx = 1
        · exact hz
        · rw [if_neg hz] at e2; cases e2
      · rename_i h1 h2
        cases h
        obtain ⟨e2, e1, e0⟩ := facts _ rfl hH
        have d1 := hd _ _ h1
        have d2 := hd _ _ h2
        refine fin 2 rfl ?_
        rw [d1] at e1
        rw [d2] at e2
        have n0 : s st.nx ≠ 0 := fun hz => by rw [if_pos hz] at e1; cases e1
        have n1 : s st.nx ≠ 1 := fun hz => by rw [if_pos hz] at e2; cases e2
        omega
      · cases h
    · cases h
  · cases h

def tabQ (xs : List (Nat × X)) : Tab := { tabZ xs with qext := Qx.or qRem (Qx.or qBool (tabZ xs).qext) }
theorem tabQ_ok {xs : List (Nat × X)} (hx : ∀ f g, (f, g) ∈ xs → XOk Try.prog f g) : (tabQ xs).Ok Try.prog :=
  let h := tabZ_ok hx
  { mixed := h.mixed, arr := h.arr, fld := h.fld, var := h.var, zero := h.zero, bld := h.bld, slc := h.slc, mks := h.mks, kind := h.kind, elem := h.elem, prim := h.prim, lext := h.lext
    qext := QextOk.or qRem_ok (QextOk.or qBool_ok h.qext) }
noncomputable def with1Q (xs : List (Nat × X)) (f : Nat) (fn : Func) : List (Nat × X) := (f, inlX (tabQ xs) 2000 fn) :: xs
theorem with1Q_ok {xs : List (Nat × X)} (hx : XsOk xs) {f : Nat} {fn : Func} (hf : Try.prog.funcs[f]? = some fn) (hn : (fn.name == "runtime.NumGoroutine") = false) : XsOk (with1Q xs f fn) :=
  xcons_ok (inlX_ok (tabQ_ok hx) 2000 hf hn) hx
noncomputable def xv1 : List (Nat × X) := with1Q (with1Q (with1Q (with1Q xw0 37 Try.f37) 33 Try.f33) 40 Try.f40) 38 Try.f38
theorem xv1_ok : XsOk xv1 := with1Q_ok (with1Q_ok (with1Q_ok (with1Q_ok xw0_ok Try.func37 (by kernel_rfl)) Try.func33 (by kernel_rfl)) Try.func40 (by kernel_rfl)) Try.func38 (by kernel_rfl)
end P224
/- Two points come out as bytes at once. -/
namespace P224
open Go Go.RowKit Go.Proofs
set_option maxRecDepth 100000
set_option linter.unusedVariables false
section
variable {s : Nums} {β : Places} {F : Fix} {w0 : World} {st : St} {a : Act} {w : World}

/-- The block that a slice leads to is none of these. -/
def OffAll (F : Fix) (β : Places) (nr : Nat) (v : Value) : Prop := ∀ b n c, v = .slice (some ⟨b, 0, none⟩) n c → ∀ r, F.nold ≤ r → r < nr → (β r).1 ≠ b
theorem outP_at {w' : World} (hk : Rel F s β w0 st a w') (hsz : w0.heap.size ≤ w.heap.size) {r : PR} {x : A0} {st' : St} (h : outP F st r = some (x, st')) {p : Pt pp} (hp : r.is s p) {v : Value} (hn : NewAt w v w' p) (hoff : OffAll F β st.nr v) (hH : Holds s st'.nx st'.exs) :
    ∃ β', Agree β β' st.nr ∧ x.rep s β' st'.nr v ∧ Rel F s β' w0 st' a w' ∧ (∀ b n c, v = .slice (some ⟨b, 0, none⟩) n c → β' st.nr = (b, 0)) ∧ st'.nr = st.nr + 1 := by
  have far : p = .far → ∃ β', Agree β β' st.nr ∧ (A0.slc st.nr 0 1 57).rep s β' (st.nr + 1) v ∧ Rel F s β' w0 { st with mem := (st.nr, [.lit (.int .u8 0)]) :: st.mem, nr := st.nr + 1 } a w' ∧ (∀ b n c, v = .slice (some ⟨b, 0, none⟩) n c → β' st.nr = (b, 0)) := fun hp => by
    obtain ⟨b, g1, g2, g3, g4, g5⟩ := hn.is_far hp
    obtain ⟨β', q1, q2, q3⟩ := hk.add (Nat.le_trans hsz g1) g2 (hoff b _ _ g3) (l := [.lit (.int .u8 0)]) (fun j z hz => by
      match j, hz with
      | 0, hz => cases hz; exact ⟨_, g4, fun _ _ _ => rfl⟩
      | j + 1, hz => cases hz) (fun j hj => by
      have : j = 0 := by simp at hj; exact hj
      subst this; exact g5)
    refine ⟨β', q1, ⟨by rw [at_, q2]; exact g3, Nat.lt_succ_self _⟩, q3, fun b' n c e => ?_⟩
    rw [g3] at e
    cases e
    exact q2
  have on : ∀ i j, p = ptN (s i) (s j) → s i < pq → s j < pq → ∃ β', Agree β β' st.nr ∧ (A0.slc st.nr 0 57 57).rep s β' (st.nr + 1) v ∧ Rel F s β' w0 { st with mem := (st.nr, ptRow i j) :: st.mem, nr := st.nr + 1 } a w' ∧ (∀ b n c, v = .slice (some ⟨b, 0, none⟩) n c → β' st.nr = (b, 0)) := fun i j hp hi hj => by
    obtain ⟨b, g1, g2, g3, g4, g5⟩ := hn.is_on hp hi hj
    obtain ⟨β', q1, q2, q3⟩ := hk.add (Nat.le_trans hsz g1) g2 (hoff b _ _ g3) (l := ptRow i j) (fun k z hz => by
      obtain ⟨v, u1, u2⟩ := ptRow_cells g4 rfl rfl hi hj k z hz
      exact ⟨v, u1, fun β' _ _ => u2 β' _⟩) (fun k hk => g5 k (by rwa [ptRow_len] at hk))
    refine ⟨β', q1, ⟨by rw [at_, q2]; exact g3, Nat.lt_succ_self _⟩, q3, fun b' n c e => ?_⟩
    rw [g3] at e
    cases e
    exact q2
  cases r with
  | far =>
    cases h
    obtain ⟨β', q1, q2, q3, q4⟩ := far hp
    exact ⟨β', q1, q2, q3, q4, rfl⟩
  | pt i j =>
    cases h
    obtain ⟨β', q1, q2, q3, q4⟩ := on i j hp.1 hp.2.1 hp.2.2
    exact ⟨β', q1, q2, q3, q4, rfl⟩
  | new cf cx cy =>
    obtain ⟨hf, hx, hy⟩ := hp
    simp only [outP] at h
    split at h
    · rename_i hd
      cases h
      have e := hk.dec _ _ hd
      have e2 : s st.nx = cf.val s := hH.1
      rw [e, hf] at e2
      rcases farOf_cases p with ⟨h1, h2⟩ | ⟨h1, h2⟩
      · obtain ⟨β', q1, q2, q3, q4⟩ := far h2
        exact ⟨β', q1, q2, q3.nums _ _, q4, rfl⟩
      · rw [h1] at e2; cases e2
    · rename_i hd
      cases h
      have e := hk.dec _ _ hd
      have e2 : s st.nx = cf.val s := hH.2.2.1
      have ex : s (st.nx + 1) = cx.val s := hH.2.1
      have ey : s (st.nx + 2) = cy.val s := hH.1
      rw [e, hf] at e2
      rcases farOf_cases p with ⟨h1, h2⟩ | ⟨h1, h2⟩
      · rw [h1] at e2; cases e2
      · obtain ⟨β', q1, q2, q3, q4⟩ := on (st.nx + 1) (st.nx + 2) (by rw [ex, ey, hx, hy]; exact h2) (by rw [ex, hx]; exact xOf_lt p) (by rw [ey, hy]; exact yOf_lt p)
        exact ⟨β', q1, q2, q3.nums _ _, q4, rfl⟩
    · cases h

/-- Two new slices of points, apart from each other. -/
def OutPt2 (w : World) (p q : Pt pp) (r : Value) (w' : World) : Prop := ∃ v1 v2, r = .tuple #[v1, v2, .bool true] ∧ NewAt w v1 w' p ∧ NewAt w v2 w' q ∧ ∀ b1 n1 c1 b2 n2 c2, v1 = .slice (some ⟨b1, 0, none⟩) n1 c1 → v2 = .slice (some ⟨b2, 0, none⟩) n2 c2 → b1 ≠ b2
theorem NewAt.ge {v : Value} {w' : World} {p : Pt pp} (h : NewAt w v w' p) {b n c : Nat} (hv : v = .slice (some ⟨b, 0, none⟩) n c) : w.heap.size ≤ b := by
  cases h with
  | far b' hge hlt hv' hp hz hb => rw [hv'] at hv; cases hv; exact hge
  | on b' x y hge hlt hv' hp hx hy hz hb => rw [hv'] at hv; cases hv; exact hge
theorem NewAt.form {v : Value} {w' : World} {p : Pt pp} (h : NewAt w v w' p) : ∃ b n c, v = .slice (some ⟨b, 0, none⟩) n c := by
  cases h with
  | far b' hge hlt hv' hp hz hb => exact ⟨_, _, _, hv'⟩
  | on b' x y hge hlt hv' hp hx hy hz hb => exact ⟨_, _, _, hv'⟩
theorem outP2_ok (hr : Rel F s β w0 st a w) {r1 r2 : PR} {x1 x2 : A0} {st1 st2 : St} (h1 : outP F st r1 = some (x1, st1)) (h2 : outP F st1 r2 = some (x2, st2)) {p1 p2 : Pt pp} (hp1 : r1.is s p1) (hp2 : r2.is s p2)
    {v1 v2 : Value} {w' : World} (hn1 : NewAt w v1 w' p1) (hn2 : NewAt w v2 w' p2) (hap : ∀ b1 n1 c1 b2 n2 c2, v1 = .slice (some ⟨b1, 0, none⟩) n1 c1 → v2 = .slice (some ⟨b2, 0, none⟩) n2 c2 → b1 ≠ b2) (hH : Holds s st2.nx st2.exs) :
    ∃ β', Agree β β' st.nr ∧ x1.rep s β' st2.nr v1 ∧ x2.rep s β' st2.nr v2 ∧ Rel F s β' w0 st2 a w' := by
  have hk := hr.kept hn1.below
  obtain ⟨β1, q1, q2, q3, q4, q5⟩ := outP_at hk hr.size_le h1 hp1 hn1 (fun b n c e => hr.far_from (B := 0) (hn1.ge e)) ((outP_grows h2).le.holds hH)
  obtain ⟨β2, u1, u2, u3, u4, u5⟩ := outP_at q3 hr.size_le h2 hp2 hn2 (fun b n c e r hr1 hr2 => by
    by_cases hh : r < st.nr
    · rw [q1 r hh]; exact hr.far_from (B := 0) (hn2.ge e) r hr1 hh
    · have : r = st.nr := by omega
      subst this
      obtain ⟨b1, n1, c1, e1⟩ := hn1.form
      rw [q4 b1 n1 c1 e1]
      exact hap b1 n1 c1 b n c e1 e) hH
  exact ⟨β2, fun r hr => by rw [u1 r (by omega), q1 r hr], A0.rep_mono u1 (by omega) q2, u2, u3⟩
end

def x34 : X := fun F st args => match args with
  | [.one a, .one b] => match inP F st a with
    | some (_, st1) => match inP F st1 b with
      | some (q, st2) => match outP F st2 (match q with
          | none => .far
          | some (i, j) => .pt i j) with
        | some (x, st3) => match outP F st3 (dblR q) with
          | some (y, st4) => some (.tup [.one x, .one y, .one (.lit (.bool true))], st4)
          | none => none
        | none => none
      | none => none
    | none => none
  | _ => none
theorem x34_ok_of (hm : ∀ (w : World) (v1 v2 : Value) (p q : Pt pp), PtAt w v1 p → PtAt w v2 q → Meets Try.prog 34 #[v1, v2] w (OutPt2 w q (padd q q))) : XOk Try.prog 34 x34 := by
  refine ⟨fun {F st st' args av} h => ?_, fun {s β F w0 st st' a w args vs av} hr h hargs hH => ?_⟩
  · unfold x34 at h
    split at h
    · split at h
      · rename_i h1
        split at h
        · rename_i h2
          split at h
          · rename_i h3
            split at h
            · rename_i h4
              cases h
              exact (((inP_grows h1).trans (inP_grows h2)).trans (outP_grows h3)).trans (outP_grows h4)
            · cases h
          · cases h
        · cases h
      · cases h
    · cases h
  · unfold x34 at h
    split at h
    · split at h
      · rename_i p st1 h1
        split at h
        · rename_i q st2 h2
          split at h
          · rename_i x st3 h3
            split at h
            · rename_i y st4 h4
              cases h
              obtain ⟨u, v, rfl, hu, hv⟩ := avs2 hargs
              have H3 := (outP_grows h4).le.holds hH
              have H2 := (outP_grows h3).le.holds H3
              have H1 := (inP_grows h2).le.holds H2
              obtain ⟨a1, a2, r1⟩ := inP_ok hr h1 H1 hu
              obtain ⟨e1, e2⟩ := inP_same h1
              obtain ⟨b1, b2, r2⟩ := inP_ok r1 h2 H2 (by rw [e2]; exact hv)
              obtain ⟨e3, e4⟩ := inP_same h2
              have hme := hm w u v _ _ a1 b1
              intro o' a' next Q hn
              refine hme o' a' next Q fun r w' ⟨v1, v2, hr', hn1, hn2, hap⟩ => hn _ _ ?_
              obtain ⟨β', q1, q2, q3, q4⟩ := outP2_ok r2 h3 h4 (p1 := ptOf s q) (p2 := padd (ptOf s q) (ptOf s q)) (by
                match q, b2 with
                | none, _ => exact rfl
                | some (i, j), b2 => exact ⟨rfl, (b2 i j rfl).1, (b2 i j rfl).2.1⟩) (dblR_is b2) hn1 hn2 hap hH
              exact ⟨β', by rw [← e2, ← e4]; exact q1, ⟨[_, _, _], hr', q2, q3, rfl, trivial⟩, q4⟩
            · cases h
          · cases h
        · cases h
      · cases h
    · cases h
end P224
