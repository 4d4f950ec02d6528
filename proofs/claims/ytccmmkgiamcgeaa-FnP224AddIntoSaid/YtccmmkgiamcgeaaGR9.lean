/- The package's Add of two points by their bytes, whose receiver is one of them. PRINTED BY A PROGRAM OF MY OWN (gen/mk39.py). -/
import Derived.Test.YtccmmkgiamcgeaaGQ6
set_option linter.all false
namespace P224
open Go Go.RowKit Go.Proofs
set_option maxRecDepth 100000
set_option linter.unusedVariables false
def ex39appF : List Ex := [
.feq (.v 11) (.c 1),
.feq (.v 10) (.c 0),
.op 17 [(.v 0), (.v 1), (.v 5), (.v 2), (.v 3), (.v 7)],
.op 16 [(.v 0), (.v 1), (.v 5), (.v 2), (.v 3), (.v 7)],
.op 15 [(.v 0), (.v 1), (.v 5), (.v 2), (.v 3), (.v 7)],
.fcst 1,
.op 20 [(.v 2), (.v 3)],
.fcst 1,
.op 20 [(.v 0), (.v 1)]]
def dec39appF : List (Nat × Bool) := [(4, true), (6, true), (11, true), (12, true)]
def fix39appF : Fix := fixD 42 2 [] [] dec39appF
def br39appF : BriefR := ⟨.ret, 13, ex39appF, [], [.one (.slc 10 0 1 57), .one (.lit (.bool true))], [some (farRow)]⟩
theorem run39appF : briefR (tabX true pointPrims xm4) Try.f39 [10] (runF (tabX true pointPrims xm4) fix39appF 3000 Try.f39 (startSt [.one (.lit (.int .i64 0)), .one (.sl 0 0 57), .one (.sl 1 0 57)] [(0, ptRow 0 1), (1, ptRow 2 3)] 4 2)) = some br39appF := by kernel_rfl
theorem law39appF {s : Nums} {x0 y0 : Nat} (g0 : s 0 = x0) (g1 : s 1 = y0) (lx0 : x0 < pq) (ly0 : y0 < pq) (hon0 : onN x0 y0 = 1) {x1 y1 : Nat} (g2 : s 2 = x1) (g3 : s 3 = y1) (lx1 : x1 < pq) (ly1 : y1 < pq) (hon1 : onN x1 y1 = 1) (hfar : padd (ptN x0 y0) (ptN x1 y1) = .far) (h : Holds s 13 ex39appF) : s 4 = 1 ∧ s 6 = 1 ∧ s 11 = 1 ∧ s 12 = 1 := by
  obtain ⟨h12, h11, h10, h9, h8, h7, h6, h5, h4, _⟩ := h
  have e12 : s 12 = if s 11 = 1 then 1 else 0 := h12
  have e11 : s 11 = if s 10 = 0 then 1 else 0 := h11
  have e10 : s 10 = szN pq bq (s 0) (s 1) (s 5) (s 2) (s 3) (s 7) := h10
  have e9 : s 9 = syN pq bq (s 0) (s 1) (s 5) (s 2) (s 3) (s 7) := h9
  have e8 : s 8 = sxN pq bq (s 0) (s 1) (s 5) (s 2) (s 3) (s 7) := h8
  have e7 : s 7 = 1 := (show s 7 = 1 % pq from h7).trans mod_one_pq
  have e6 : s 6 = onN (s 2) (s 3) := h6
  have e5 : s 5 = 1 := (show s 5 = 1 % pq from h5).trans mod_one_pq
  have e4 : s 4 = onN (s 0) (s 1) := h4
  rw [g0, g1, e5, g2, g3, e7] at e8 e9 e10
  have key := add_nums (onN_on hon0) (onN_on hon1) (rep_one fine x0 y0) (rep_one fine x1 y1) e8 e9 e10
  have k0 := key.1 hfar
  rw [if_pos k0] at e11
  rw [if_pos e11] at e12
  rw [g2, g3, hon1] at e6
  rw [g0, g1, hon0] at e4
  exact ⟨e4, e6, e11, e12⟩

def ex39appN : List Ex := [
.fmul (.v 9) (.v 14),
.fcst 0,
.fmul (.v 8) (.v 14),
.fcst 0,
.finv (.v 10),
.fcst 0,
.feq (.v 11) (.c 1),
.feq (.v 10) (.c 0),
.op 17 [(.v 0), (.v 1), (.v 5), (.v 2), (.v 3), (.v 7)],
.op 16 [(.v 0), (.v 1), (.v 5), (.v 2), (.v 3), (.v 7)],
.op 15 [(.v 0), (.v 1), (.v 5), (.v 2), (.v 3), (.v 7)],
.fcst 1,
.op 20 [(.v 2), (.v 3)],
.fcst 1,
.op 20 [(.v 0), (.v 1)]]
def dec39appN : List (Nat × Bool) := [(4, true), (6, true), (11, false), (12, false)]
def fix39appN : Fix := fixD 42 2 [] [] dec39appN
def br39appN : BriefR := ⟨.ret, 19, ex39appN, [], [.one (.slc 10 0 57 57), .one (.lit (.bool true))], [some (ptRow 16 18)]⟩
theorem run39appN : briefR (tabX true pointPrims xm4) Try.f39 [10] (runF (tabX true pointPrims xm4) fix39appN 3000 Try.f39 (startSt [.one (.lit (.int .i64 0)), .one (.sl 0 0 57), .one (.sl 1 0 57)] [(0, ptRow 0 1), (1, ptRow 2 3)] 4 2)) = some br39appN := by kernel_rfl
theorem law39appN {s : Nums} {x0 y0 : Nat} (g0 : s 0 = x0) (g1 : s 1 = y0) (lx0 : x0 < pq) (ly0 : y0 < pq) (hon0 : onN x0 y0 = 1) {x1 y1 : Nat} (g2 : s 2 = x1) (g3 : s 3 = y1) (lx1 : x1 < pq) (ly1 : y1 < pq) (hon1 : onN x1 y1 = 1) (hfar : padd (ptN x0 y0) (ptN x1 y1) ≠ .far) (h : Holds s 19 ex39appN) : s 4 = 1 ∧ s 6 = 1 ∧ s 11 = 0 ∧ s 12 = 0 ∧ s 16 = xOf (padd (ptN x0 y0) (ptN x1 y1)) ∧ s 18 = yOf (padd (ptN x0 y0) (ptN x1 y1)) := by
  obtain ⟨h18, h17, h16, h15, h14, h13, h12, h11, h10, h9, h8, h7, h6, h5, h4, _⟩ := h
  have e18 : s 18 = s 9 * s 14 % pq := h18
  have e17 : s 17 = 0 := (show s 17 = 0 % pq from h17).trans (Nat.zero_mod _)
  have e16 : s 16 = s 8 * s 14 % pq := h16
  have e15 : s 15 = 0 := (show s 15 = 0 % pq from h15).trans (Nat.zero_mod _)
  have e14 : s 14 = finvq (s 10) := h14
  have e13 : s 13 = 0 := (show s 13 = 0 % pq from h13).trans (Nat.zero_mod _)
  have e12 : s 12 = if s 11 = 1 then 1 else 0 := h12
  have e11 : s 11 = if s 10 = 0 then 1 else 0 := h11
  have e10 : s 10 = szN pq bq (s 0) (s 1) (s 5) (s 2) (s 3) (s 7) := h10
  have e9 : s 9 = syN pq bq (s 0) (s 1) (s 5) (s 2) (s 3) (s 7) := h9
  have e8 : s 8 = sxN pq bq (s 0) (s 1) (s 5) (s 2) (s 3) (s 7) := h8
  have e7 : s 7 = 1 := (show s 7 = 1 % pq from h7).trans mod_one_pq
  have e6 : s 6 = onN (s 2) (s 3) := h6
  have e5 : s 5 = 1 := (show s 5 = 1 % pq from h5).trans mod_one_pq
  have e4 : s 4 = onN (s 0) (s 1) := h4
  rw [g0, g1, e5, g2, g3, e7] at e8 e9 e10
  have key := add_nums (onN_on hon0) (onN_on hon1) (rep_one fine x0 y0) (rep_one fine x1 y1) e8 e9 e10
  obtain ⟨k0, k1, k2⟩ := key.2 hfar
  rw [if_neg k0] at e11
  rw [if_neg (by rw [e11]; decide)] at e12
  rw [e14, k1] at e16
  rw [e14, k2] at e18
  rw [g2, g3, hon1] at e6
  rw [g0, g1, hon0] at e4
  exact ⟨e4, e6, e11, e12, e16, e18⟩

def ex39afpN : List Ex := [
.fmul (.v 13) (.v 18),
.fcst 0,
.fmul (.v 12) (.v 18),
.fcst 0,
.finv (.v 14),
.fcst 0,
.feq (.v 15) (.c 1),
.feq (.v 14) (.c 0),
.op 17 [(.v 6), (.v 8), (.v 9), (.v 0), (.v 1), (.v 11)],
.op 16 [(.v 6), (.v 8), (.v 9), (.v 0), (.v 1), (.v 11)],
.op 15 [(.v 6), (.v 8), (.v 9), (.v 0), (.v 1), (.v 11)],
.fcst 1,
.op 20 [(.v 0), (.v 1)],
.fcst 0,
.fcst 1,
.fcst 0,
.fcst 0,
.fcst 0,
.fcst 1,
.fcst 0,
.fcst 0]
def dec39afpN : List (Nat × Bool) := [(10, true), (15, false), (16, false)]
def fix39afpN : Fix := fixD 42 2 [] [] dec39afpN
def br39afpN : BriefR := ⟨.ret, 23, ex39afpN, [], [.one (.slc 16 0 57 57), .one (.lit (.bool true))], [some (ptRow 20 22)]⟩
theorem run39afpN : briefR (tabX true pointPrims xm4) Try.f39 [16] (runF (tabX true pointPrims xm4) fix39afpN 3000 Try.f39 (startSt [.one (.lit (.int .i64 0)), .one (.sl 0 0 1), .one (.sl 1 0 57)] [(0, [.lit (.int .u8 0)]), (1, ptRow 0 1)] 2 2)) = some br39afpN := by kernel_rfl
theorem law39afpN {s : Nums} {x1 y1 : Nat} (g0 : s 0 = x1) (g1 : s 1 = y1) (lx1 : x1 < pq) (ly1 : y1 < pq) (hon1 : onN x1 y1 = 1) (hfar : padd .far (ptN x1 y1) ≠ .far) (h : Holds s 23 ex39afpN) : s 10 = 1 ∧ s 15 = 0 ∧ s 16 = 0 ∧ s 20 = xOf (padd .far (ptN x1 y1)) ∧ s 22 = yOf (padd .far (ptN x1 y1)) := by
  obtain ⟨h22, h21, h20, h19, h18, h17, h16, h15, h14, h13, h12, h11, h10, h9, h8, h7, h6, h5, h4, h3, h2, _⟩ := h
  have e22 : s 22 = s 13 * s 18 % pq := h22
  have e21 : s 21 = 0 := (show s 21 = 0 % pq from h21).trans (Nat.zero_mod _)
  have e20 : s 20 = s 12 * s 18 % pq := h20
  have e19 : s 19 = 0 := (show s 19 = 0 % pq from h19).trans (Nat.zero_mod _)
  have e18 : s 18 = finvq (s 14) := h18
  have e17 : s 17 = 0 := (show s 17 = 0 % pq from h17).trans (Nat.zero_mod _)
  have e16 : s 16 = if s 15 = 1 then 1 else 0 := h16
  have e15 : s 15 = if s 14 = 0 then 1 else 0 := h15
  have e14 : s 14 = szN pq bq (s 6) (s 8) (s 9) (s 0) (s 1) (s 11) := h14
  have e13 : s 13 = syN pq bq (s 6) (s 8) (s 9) (s 0) (s 1) (s 11) := h13
  have e12 : s 12 = sxN pq bq (s 6) (s 8) (s 9) (s 0) (s 1) (s 11) := h12
  have e11 : s 11 = 1 := (show s 11 = 1 % pq from h11).trans mod_one_pq
  have e10 : s 10 = onN (s 0) (s 1) := h10
  have e9 : s 9 = 0 := (show s 9 = 0 % pq from h9).trans (Nat.zero_mod _)
  have e8 : s 8 = 1 := (show s 8 = 1 % pq from h8).trans mod_one_pq
  have e7 : s 7 = 0 := (show s 7 = 0 % pq from h7).trans (Nat.zero_mod _)
  have e6 : s 6 = 0 := (show s 6 = 0 % pq from h6).trans (Nat.zero_mod _)
  have e5 : s 5 = 0 := (show s 5 = 0 % pq from h5).trans (Nat.zero_mod _)
  have e4 : s 4 = 1 := (show s 4 = 1 % pq from h4).trans mod_one_pq
  have e3 : s 3 = 0 := (show s 3 = 0 % pq from h3).trans (Nat.zero_mod _)
  have e2 : s 2 = 0 := (show s 2 = 0 % pq from h2).trans (Nat.zero_mod _)
  rw [e6, e8, e9, g0, g1, e11] at e12 e13 e14
  have key := add_nums far_on (onN_on hon1) (rep_zero fine) (rep_one fine x1 y1) e12 e13 e14
  obtain ⟨k0, k1, k2⟩ := key.2 hfar
  rw [if_neg k0] at e15
  rw [if_neg (by rw [e15]; decide)] at e16
  rw [e18, k1] at e20
  rw [e18, k2] at e22
  rw [g0, g1, hon1] at e10
  exact ⟨e10, e15, e16, e20, e22⟩

def ex39apfN : List Ex := [
.fmul (.v 13) (.v 18),
.fcst 0,
.fmul (.v 12) (.v 18),
.fcst 0,
.finv (.v 14),
.fcst 0,
.feq (.v 15) (.c 1),
.feq (.v 14) (.c 0),
.op 17 [(.v 0), (.v 1), (.v 3), (.v 8), (.v 10), (.v 11)],
.op 16 [(.v 0), (.v 1), (.v 3), (.v 8), (.v 10), (.v 11)],
.op 15 [(.v 0), (.v 1), (.v 3), (.v 8), (.v 10), (.v 11)],
.fcst 0,
.fcst 1,
.fcst 0,
.fcst 0,
.fcst 0,
.fcst 1,
.fcst 0,
.fcst 0,
.fcst 1,
.op 20 [(.v 0), (.v 1)]]
def dec39apfN : List (Nat × Bool) := [(2, true), (15, false), (16, false)]
def fix39apfN : Fix := fixD 42 2 [] [] dec39apfN
def br39apfN : BriefR := ⟨.ret, 23, ex39apfN, [], [.one (.slc 16 0 57 57), .one (.lit (.bool true))], [some (ptRow 20 22)]⟩
theorem run39apfN : briefR (tabX true pointPrims xm4) Try.f39 [16] (runF (tabX true pointPrims xm4) fix39apfN 3000 Try.f39 (startSt [.one (.lit (.int .i64 0)), .one (.sl 0 0 57), .one (.sl 1 0 1)] [(0, ptRow 0 1), (1, [.lit (.int .u8 0)])] 2 2)) = some br39apfN := by kernel_rfl
theorem law39apfN {s : Nums} {x0 y0 : Nat} (g0 : s 0 = x0) (g1 : s 1 = y0) (lx0 : x0 < pq) (ly0 : y0 < pq) (hon0 : onN x0 y0 = 1) (hfar : padd (ptN x0 y0) .far ≠ .far) (h : Holds s 23 ex39apfN) : s 2 = 1 ∧ s 15 = 0 ∧ s 16 = 0 ∧ s 20 = xOf (padd (ptN x0 y0) .far) ∧ s 22 = yOf (padd (ptN x0 y0) .far) := by
  obtain ⟨h22, h21, h20, h19, h18, h17, h16, h15, h14, h13, h12, h11, h10, h9, h8, h7, h6, h5, h4, h3, h2, _⟩ := h
  have e22 : s 22 = s 13 * s 18 % pq := h22
  have e21 : s 21 = 0 := (show s 21 = 0 % pq from h21).trans (Nat.zero_mod _)
  have e20 : s 20 = s 12 * s 18 % pq := h20
  have e19 : s 19 = 0 := (show s 19 = 0 % pq from h19).trans (Nat.zero_mod _)
  have e18 : s 18 = finvq (s 14) := h18
  have e17 : s 17 = 0 := (show s 17 = 0 % pq from h17).trans (Nat.zero_mod _)
  have e16 : s 16 = if s 15 = 1 then 1 else 0 := h16
  have e15 : s 15 = if s 14 = 0 then 1 else 0 := h15
  have e14 : s 14 = szN pq bq (s 0) (s 1) (s 3) (s 8) (s 10) (s 11) := h14
  have e13 : s 13 = syN pq bq (s 0) (s 1) (s 3) (s 8) (s 10) (s 11) := h13
  have e12 : s 12 = sxN pq bq (s 0) (s 1) (s 3) (s 8) (s 10) (s 11) := h12
  have e11 : s 11 = 0 := (show s 11 = 0 % pq from h11).trans (Nat.zero_mod _)
  have e10 : s 10 = 1 := (show s 10 = 1 % pq from h10).trans mod_one_pq
  have e9 : s 9 = 0 := (show s 9 = 0 % pq from h9).trans (Nat.zero_mod _)
  have e8 : s 8 = 0 := (show s 8 = 0 % pq from h8).trans (Nat.zero_mod _)
  have e7 : s 7 = 0 := (show s 7 = 0 % pq from h7).trans (Nat.zero_mod _)
  have e6 : s 6 = 1 := (show s 6 = 1 % pq from h6).trans mod_one_pq
  have e5 : s 5 = 0 := (show s 5 = 0 % pq from h5).trans (Nat.zero_mod _)
  have e4 : s 4 = 0 := (show s 4 = 0 % pq from h4).trans (Nat.zero_mod _)
  have e3 : s 3 = 1 := (show s 3 = 1 % pq from h3).trans mod_one_pq
  have e2 : s 2 = onN (s 0) (s 1) := h2
  rw [g0, g1, e3, e8, e10, e11] at e12 e13 e14
  have key := add_nums (onN_on hon0) far_on (rep_one fine x0 y0) (rep_zero fine) e12 e13 e14
  obtain ⟨k0, k1, k2⟩ := key.2 hfar
  rw [if_neg k0] at e15
  rw [if_neg (by rw [e15]; decide)] at e16
  rw [e18, k1] at e20
  rw [e18, k2] at e22
  rw [g0, g1, hon0] at e2
  exact ⟨e2, e15, e16, e20, e22⟩

def ex39affF : List Ex := [
.feq (.v 19) (.c 1),
.feq (.v 18) (.c 0),
.op 17 [(.v 4), (.v 6), (.v 7), (.v 12), (.v 14), (.v 15)],
.op 16 [(.v 4), (.v 6), (.v 7), (.v 12), (.v 14), (.v 15)],
.op 15 [(.v 4), (.v 6), (.v 7), (.v 12), (.v 14), (.v 15)],
.fcst 0,
.fcst 1,
.fcst 0,
.fcst 0,
.fcst 0,
.fcst 1,
.fcst 0,
.fcst 0,
.fcst 0,
.fcst 1,
.fcst 0,
.fcst 0,
.fcst 0,
.fcst 1,
.fcst 0,
.fcst 0]
def dec39affF : List (Nat × Bool) := [(19, true), (20, true)]
def fix39affF : Fix := fixD 42 2 [] [] dec39affF
def br39affF : BriefR := ⟨.ret, 21, ex39affF, [], [.one (.slc 22 0 1 57), .one (.lit (.bool true))], [some (farRow)]⟩
theorem run39affF : briefR (tabX true pointPrims xm4) Try.f39 [22] (runF (tabX true pointPrims xm4) fix39affF 3000 Try.f39 (startSt [.one (.lit (.int .i64 0)), .one (.sl 0 0 1), .one (.sl 1 0 1)] [(0, [.lit (.int .u8 0)]), (1, [.lit (.int .u8 0)])] 0 2)) = some br39affF := by kernel_rfl
theorem law39affF {s : Nums} (hfar : padd (.far : Pt pp) .far = .far) (h : Holds s 21 ex39affF) : s 19 = 1 ∧ s 20 = 1 := by
  obtain ⟨h20, h19, h18, h17, h16, h15, h14, h13, h12, h11, h10, h9, h8, h7, h6, h5, h4, h3, h2, h1, h0, _⟩ := h
  have e20 : s 20 = if s 19 = 1 then 1 else 0 := h20
  have e19 : s 19 = if s 18 = 0 then 1 else 0 := h19
  have e18 : s 18 = szN pq bq (s 4) (s 6) (s 7) (s 12) (s 14) (s 15) := h18
  have e17 : s 17 = syN pq bq (s 4) (s 6) (s 7) (s 12) (s 14) (s 15) := h17
  have e16 : s 16 = sxN pq bq (s 4) (s 6) (s 7) (s 12) (s 14) (s 15) := h16
  have e15 : s 15 = 0 := (show s 15 = 0 % pq from h15).trans (Nat.zero_mod _)
  have e14 : s 14 = 1 := (show s 14 = 1 % pq from h14).trans mod_one_pq
  have e13 : s 13 = 0 := (show s 13 = 0 % pq from h13).trans (Nat.zero_mod _)
  have e12 : s 12 = 0 := (show s 12 = 0 % pq from h12).trans (Nat.zero_mod _)
  have e11 : s 11 = 0 := (show s 11 = 0 % pq from h11).trans (Nat.zero_mod _)
  have e10 : s 10 = 1 := (show s 10 = 1 % pq from h10).trans mod_one_pq
  have e9 : s 9 = 0 := (show s 9 = 0 % pq from h9).trans (Nat.zero_mod _)
  have e8 : s 8 = 0 := (show s 8 = 0 % pq from h8).trans (Nat.zero_mod _)
  have e7 : s 7 = 0 := (show s 7 = 0 % pq from h7).trans (Nat.zero_mod _)
  have e6 : s 6 = 1 := (show s 6 = 1 % pq from h6).trans mod_one_pq
  have e5 : s 5 = 0 := (show s 5 = 0 % pq from h5).trans (Nat.zero_mod _)
  have e4 : s 4 = 0 := (show s 4 = 0 % pq from h4).trans (Nat.zero_mod _)
  have e3 : s 3 = 0 := (show s 3 = 0 % pq from h3).trans (Nat.zero_mod _)
  have e2 : s 2 = 1 := (show s 2 = 1 % pq from h2).trans mod_one_pq
  have e1 : s 1 = 0 := (show s 1 = 0 % pq from h1).trans (Nat.zero_mod _)
  have e0 : s 0 = 0 := (show s 0 = 0 % pq from h0).trans (Nat.zero_mod _)
  rw [e4, e6, e7, e12, e14, e15] at e16 e17 e18
  have key := add_nums far_on far_on (rep_zero fine) (rep_zero fine) e16 e17 e18
  have k0 := key.1 hfar
  rw [if_pos k0] at e19
  rw [if_pos e19] at e20
  exact ⟨e19, e20⟩

def ex39bppF : List Ex := [
.feq (.v 11) (.c 1),
.feq (.v 10) (.c 0),
.op 17 [(.v 0), (.v 1), (.v 5), (.v 2), (.v 3), (.v 7)],
.op 16 [(.v 0), (.v 1), (.v 5), (.v 2), (.v 3), (.v 7)],
.op 15 [(.v 0), (.v 1), (.v 5), (.v 2), (.v 3), (.v 7)],
.fcst 1,
.op 20 [(.v 2), (.v 3)],
.fcst 1,
.op 20 [(.v 0), (.v 1)]]
def dec39bppF : List (Nat × Bool) := [(4, true), (6, true), (11, true), (12, true)]
def fix39bppF : Fix := fixD 42 2 [] [] dec39bppF
def br39bppF : BriefR := ⟨.ret, 13, ex39bppF, [], [.one (.slc 10 0 1 57), .one (.lit (.bool true))], [some (farRow)]⟩
theorem run39bppF : briefR (tabX true pointPrims xm4) Try.f39 [10] (runF (tabX true pointPrims xm4) fix39bppF 3000 Try.f39 (startSt [.one (.lit (.int .i64 1)), .one (.sl 0 0 57), .one (.sl 1 0 57)] [(0, ptRow 0 1), (1, ptRow 2 3)] 4 2)) = some br39bppF := by kernel_rfl
theorem law39bppF {s : Nums} {x0 y0 : Nat} (g0 : s 0 = x0) (g1 : s 1 = y0) (lx0 : x0 < pq) (ly0 : y0 < pq) (hon0 : onN x0 y0 = 1) {x1 y1 : Nat} (g2 : s 2 = x1) (g3 : s 3 = y1) (lx1 : x1 < pq) (ly1 : y1 < pq) (hon1 : onN x1 y1 = 1) (hfar : padd (ptN x0 y0) (ptN x1 y1) = .far) (h : Holds s 13 ex39bppF) : s 4 = 1 ∧ s 6 = 1 ∧ s 11 = 1 ∧ s 12 = 1 := by
  obtain ⟨h12, h11, h10, h9, h8, h7, h6, h5, h4, _⟩ := h
  have e12 : s 12 = if s 11 = 1 then 1 else 0 := h12
  have e11 : s 11 = if s 10 = 0 then 1 else 0 := h11
  have e10 : s 10 = szN pq bq (s 0) (s 1) (s 5) (s 2) (s 3) (s 7) := h10
  have e9 : s 9 = syN pq bq (s 0) (s 1) (s 5) (s 2) (s 3) (s 7) := h9
  have e8 : s 8 = sxN pq bq (s 0) (s 1) (s 5) (s 2) (s 3) (s 7) := h8
  have e7 : s 7 = 1 := (show s 7 = 1 % pq from h7).trans mod_one_pq
  have e6 : s 6 = onN (s 2) (s 3) := h6
  have e5 : s 5 = 1 := (show s 5 = 1 % pq from h5).trans mod_one_pq
  have e4 : s 4 = onN (s 0) (s 1) := h4
  rw [g0, g1, e5, g2, g3, e7] at e8 e9 e10
  have key := add_nums (onN_on hon0) (onN_on hon1) (rep_one fine x0 y0) (rep_one fine x1 y1) e8 e9 e10
  have k0 := key.1 hfar
  rw [if_pos k0] at e11
  rw [if_pos e11] at e12
  rw [g2, g3, hon1] at e6
  rw [g0, g1, hon0] at e4
  exact ⟨e4, e6, e11, e12⟩

def ex39bppN : List Ex := [
.fmul (.v 9) (.v 14),
.fcst 0,
.fmul (.v 8) (.v 14),
.fcst 0,
.finv (.v 10),
.fcst 0,
.feq (.v 11) (.c 1),
.feq (.v 10) (.c 0),
.op 17 [(.v 0), (.v 1), (.v 5), (.v 2), (.v 3), (.v 7)],
.op 16 [(.v 0), (.v 1), (.v 5), (.v 2), (.v 3), (.v 7)],
.op 15 [(.v 0), (.v 1), (.v 5), (.v 2), (.v 3), (.v 7)],
.fcst 1,
.op 20 [(.v 2), (.v 3)],
.fcst 1,
.op 20 [(.v 0), (.v 1)]]
def dec39bppN : List (Nat × Bool) := [(4, true), (6, true), (11, false), (12, false)]
def fix39bppN : Fix := fixD 42 2 [] [] dec39bppN
def br39bppN : BriefR := ⟨.ret, 19, ex39bppN, [], [.one (.slc 10 0 57 57), .one (.lit (.bool true))], [some (ptRow 16 18)]⟩
theorem run39bppN : briefR (tabX true pointPrims xm4) Try.f39 [10] (runF (tabX true pointPrims xm4) fix39bppN 3000 Try.f39 (startSt [.one (.lit (.int .i64 1)), .one (.sl 0 0 57), .one (.sl 1 0 57)] [(0, ptRow 0 1), (1, ptRow 2 3)] 4 2)) = some br39bppN := by kernel_rfl
theorem law39bppN {s : Nums} {x0 y0 : Nat} (g0 : s 0 = x0) (g1 : s 1 = y0) (lx0 : x0 < pq) (ly0 : y0 < pq) (hon0 : onN x0 y0 = 1) {x1 y1 : Nat} (g2 : s 2 = x1) (g3 : s 3 = y1) (lx1 : x1 < pq) (ly1 : y1 < pq) (hon1 : onN x1 y1 = 1) (hfar : padd (ptN x0 y0) (ptN x1 y1) ≠ .far) (h : Holds s 19 ex39bppN) : s 4 = 1 ∧ s 6 = 1 ∧ s 11 = 0 ∧ s 12 = 0 ∧ s 16 = xOf (padd (ptN x0 y0) (ptN x1 y1)) ∧ s 18 = yOf (padd (ptN x0 y0) (ptN x1 y1)) := by
  obtain ⟨h18, h17, h16, h15, h14, h13, h12, h11, h10, h9, h8, h7, h6, h5, h4, _⟩ := h
  have e18 : s 18 = s 9 * s 14 % pq := h18
  have e17 : s 17 = 0 := (show s 17 = 0 % pq from h17).trans (Nat.zero_mod _)
  have e16 : s 16 = s 8 * s 14 % pq := h16
  have e15 : s 15 = 0 := (show s 15 = 0 % pq from h15).trans (Nat.zero_mod _)
  have e14 : s 14 = finvq (s 10) := h14
  have e13 : s 13 = 0 := (show s 13 = 0 % pq from h13).trans (Nat.zero_mod _)
  have e12 : s 12 = if s 11 = 1 then 1 else 0 := h12
  have e11 : s 11 = if s 10 = 0 then 1 else 0 := h11
  have e10 : s 10 = szN pq bq (s 0) (s 1) (s 5) (s 2) (s 3) (s 7) := h10
  have e9 : s 9 = syN pq bq (s 0) (s 1) (s 5) (s 2) (s 3) (s 7) := h9
  have e8 : s 8 = sxN pq bq (s 0) (s 1) (s 5) (s 2) (s 3) (s 7) := h8
  have e7 : s 7 = 1 := (show s 7 = 1 % pq from h7).trans mod_one_pq
  have e6 : s 6 = onN (s 2) (s 3) := h6
  have e5 : s 5 = 1 := (show s 5 = 1 % pq from h5).trans mod_one_pq
  have e4 : s 4 = onN (s 0) (s 1) := h4
  rw [g0, g1, e5, g2, g3, e7] at e8 e9 e10
  have key := add_nums (onN_on hon0) (onN_on hon1) (rep_one fine x0 y0) (rep_one fine x1 y1) e8 e9 e10
  obtain ⟨k0, k1, k2⟩ := key.2 hfar
  rw [if_neg k0] at e11
  rw [if_neg (by rw [e11]; decide)] at e12
  rw [e14, k1] at e16
  rw [e14, k2] at e18
  rw [g2, g3, hon1] at e6
  rw [g0, g1, hon0] at e4
  exact ⟨e4, e6, e11, e12, e16, e18⟩

def ex39bfpN : List Ex := [
.fmul (.v 13) (.v 18),
.fcst 0,
.fmul (.v 12) (.v 18),
.fcst 0,
.finv (.v 14),
.fcst 0,
.feq (.v 15) (.c 1),
.feq (.v 14) (.c 0),
.op 17 [(.v 6), (.v 8), (.v 9), (.v 0), (.v 1), (.v 11)],
.op 16 [(.v 6), (.v 8), (.v 9), (.v 0), (.v 1), (.v 11)],
.op 15 [(.v 6), (.v 8), (.v 9), (.v 0), (.v 1), (.v 11)],
.fcst 1,
.op 20 [(.v 0), (.v 1)],
.fcst 0,
.fcst 1,
.fcst 0,
.fcst 0,
.fcst 0,
.fcst 1,
.fcst 0,
.fcst 0]
def dec39bfpN : List (Nat × Bool) := [(10, true), (15, false), (16, false)]
def fix39bfpN : Fix := fixD 42 2 [] [] dec39bfpN
def br39bfpN : BriefR := ⟨.ret, 23, ex39bfpN, [], [.one (.slc 16 0 57 57), .one (.lit (.bool true))], [some (ptRow 20 22)]⟩
theorem run39bfpN : briefR (tabX true pointPrims xm4) Try.f39 [16] (runF (tabX true pointPrims xm4) fix39bfpN 3000 Try.f39 (startSt [.one (.lit (.int .i64 1)), .one (.sl 0 0 1), .one (.sl 1 0 57)] [(0, [.lit (.int .u8 0)]), (1, ptRow 0 1)] 2 2)) = some br39bfpN := by kernel_rfl
theorem law39bfpN {s : Nums} {x1 y1 : Nat} (g0 : s 0 = x1) (g1 : s 1 = y1) (lx1 : x1 < pq) (ly1 : y1 < pq) (hon1 : onN x1 y1 = 1) (hfar : padd .far (ptN x1 y1) ≠ .far) (h : Holds s 23 ex39bfpN) : s 10 = 1 ∧ s 15 = 0 ∧ s 16 = 0 ∧ s 20 = xOf (padd .far (ptN x1 y1)) ∧ s 22 = yOf (padd .far (ptN x1 y1)) := by
  obtain ⟨h22, h21, h20, h19, h18, h17, h16, h15, h14, h13, h12, h11, h10, h9, h8, h7, h6, h5, h4, h3, h2, _⟩ := h
  have e22 : s 22 = s 13 * s 18 % pq := h22
  have e21 : s 21 = 0 := (show s 21 = 0 % pq from h21).trans (Nat.zero_mod _)
  have e20 : s 20 = s 12 * s 18 % pq := h20
  have e19 : s 19 = 0 := (show s 19 = 0 % pq from h19).trans (Nat.zero_mod _)
  have e18 : s 18 = finvq (s 14) := h18
  have e17 : s 17 = 0 := (show s 17 = 0 % pq from h17).trans (Nat.zero_mod _)
  have e16 : s 16 = if s 15 = 1 then 1 else 0 := h16
  have e15 : s 15 = if s 14 = 0 then 1 else 0 := h15
  have e14 : s 14 = szN pq bq (s 6) (s 8) (s 9) (s 0) (s 1) (s 11) := h14
  have e13 : s 13 = syN pq bq (s 6) (s 8) (s 9) (s 0) (s 1) (s 11) := h13
  have e12 : s 12 = sxN pq bq (s 6) (s 8) (s 9) (s 0) (s 1) (s 11) := h12
  have e11 : s 11 = 1 := (show s 11 = 1 % pq from h11).trans mod_one_pq
  have e10 : s 10 = onN (s 0) (s 1) := h10
  have e9 : s 9 = 0 := (show s 9 = 0 % pq from h9).trans (Nat.zero_mod _)
  have e8 : s 8 = 1 := (show s 8 = 1 % pq from h8).trans mod_one_pq
  have e7 : s 7 = 0 := (show s 7 = 0 % pq from h7).trans (Nat.zero_mod _)
  have e6 : s 6 = 0 := (show s 6 = 0 % pq from h6).trans (Nat.zero_mod _)
  have e5 : s 5 = 0 := (show s 5 = 0 % pq from h5).trans (Nat.zero_mod _)
  have e4 : s 4 = 1 := (show s 4 = 1 % pq from h4).trans mod_one_pq
  have e3 : s 3 = 0 := (show s 3 = 0 % pq from h3).trans (Nat.zero_mod _)
  have e2 : s 2 = 0 := (show s 2 = 0 % pq from h2).trans (Nat.zero_mod _)
  rw [e6, e8, e9, g0, g1, e11] at e12 e13 e14
  have key := add_nums far_on (onN_on hon1) (rep_zero fine) (rep_one fine x1 y1) e12 e13 e14
  obtain ⟨k0, k1, k2⟩ := key.2 hfar
  rw [if_neg k0] at e15
  rw [if_neg (by rw [e15]; decide)] at e16
  rw [e18, k1] at e20
  rw [e18, k2] at e22
  rw [g0, g1, hon1] at e10
  exact ⟨e10, e15, e16, e20, e22⟩

def ex39bpfN : List Ex := [
.fmul (.v 13) (.v 18),
.fcst 0,
.fmul (.v 12) (.v 18),
.fcst 0,
.finv (.v 14),
.fcst 0,
.feq (.v 15) (.c 1),
.feq (.v 14) (.c 0),
.op 17 [(.v 0), (.v 1), (.v 3), (.v 8), (.v 10), (.v 11)],
.op 16 [(.v 0), (.v 1), (.v 3), (.v 8), (.v 10), (.v 11)],
.op 15 [(.v 0), (.v 1), (.v 3), (.v 8), (.v 10), (.v 11)],
.fcst 0,
.fcst 1,
.fcst 0,
.fcst 0,
.fcst 0,
.fcst 1,
.fcst 0,
.fcst 0,
.fcst 1,
.op 20 [(.v 0), (.v 1)]]
def dec39bpfN : List (Nat × Bool) := [(2, true), (15, false), (16, false)]
def fix39bpfN : Fix := fixD 42 2 [] [] dec39bpfN
def br39bpfN : BriefR := ⟨.ret, 23, ex39bpfN, [], [.one (.slc 16 0 57 57), .one (.lit (.bool true))], [some (ptRow 20 22)]⟩
theorem run39bpfN : briefR (tabX true pointPrims xm4) Try.f39 [16] (runF (tabX true pointPrims xm4) fix39bpfN 3000 Try.f39 (startSt [.one (.lit (.int .i64 1)), .one (.sl 0 0 57), .one (.sl 1 0 1)] [(0, ptRow 0 1), (1, [.lit (.int .u8 0)])] 2 2)) = some br39bpfN := by kernel_rfl
theorem law39bpfN {s : Nums} {x0 y0 : Nat} (g0 : s 0 = x0) (g1 : s 1 = y0) (lx0 : x0 < pq) (ly0 : y0 < pq) (hon0 : onN x0 y0 = 1) (hfar : padd (ptN x0 y0) .far ≠ .far) (h : Holds s 23 ex39bpfN) : s 2 = 1 ∧ s 15 = 0 ∧ s 16 = 0 ∧ s 20 = xOf (padd (ptN x0 y0) .far) ∧ s 22 = yOf (padd (ptN x0 y0) .far) := by
  obtain ⟨h22, h21, h20, h19, h18, h17, h16, h15, h14, h13, h12, h11, h10, h9, h8, h7, h6, h5, h4, h3, h2, _⟩ := h
  have e22 : s 22 = s 13 * s 18 % pq := h22
  have e21 : s 21 = 0 := (show s 21 = 0 % pq from h21).trans (Nat.zero_mod _)
  have e20 : s 20 = s 12 * s 18 % pq := h20
  have e19 : s 19 = 0 := (show s 19 = 0 % pq from h19).trans (Nat.zero_mod _)
  have e18 : s 18 = finvq (s 14) := h18
  have e17 : s 17 = 0 := (show s 17 = 0 % pq from h17).trans (Nat.zero_mod _)
  have e16 : s 16 = if s 15 = 1 then 1 else 0 := h16
  have e15 : s 15 = if s 14 = 0 then 1 else 0 := h15
  have e14 : s 14 = szN pq bq (s 0) (s 1) (s 3) (s 8) (s 10) (s 11) := h14
  have e13 : s 13 = syN pq bq (s 0) (s 1) (s 3) (s 8) (s 10) (s 11) := h13
  have e12 : s 12 = sxN pq bq (s 0) (s 1) (s 3) (s 8) (s 10) (s 11) := h12
  have e11 : s 11 = 0 := (show s 11 = 0 % pq from h11).trans (Nat.zero_mod _)
  have e10 : s 10 = 1 := (show s 10 = 1 % pq from h10).trans mod_one_pq
  have e9 : s 9 = 0 := (show s 9 = 0 % pq from h9).trans (Nat.zero_mod _)
  have e8 : s 8 = 0 := (show s 8 = 0 % pq from h8).trans (Nat.zero_mod _)
  have e7 : s 7 = 0 := (show s 7 = 0 % pq from h7).trans (Nat.zero_mod _)
  have e6 : s 6 = 1 := (show s 6 = 1 % pq from h6).trans mod_one_pq
  have e5 : s 5 = 0 := (show s 5 = 0 % pq from h5).trans (Nat.zero_mod _)
  have e4 : s 4 = 0 := (show s 4 = 0 % pq from h4).trans (Nat.zero_mod _)
  have e3 : s 3 = 1 := (show s 3 = 1 % pq from h3).trans mod_one_pq
  have e2 : s 2 = onN (s 0) (s 1) := h2
  rw [g0, g1, e3, e8, e10, e11] at e12 e13 e14
  have key := add_nums (onN_on hon0) far_on (rep_one fine x0 y0) (rep_zero fine) e12 e13 e14
  obtain ⟨k0, k1, k2⟩ := key.2 hfar
  rw [if_neg k0] at e15
  rw [if_neg (by rw [e15]; decide)] at e16
  rw [e18, k1] at e20
  rw [e18, k2] at e22
  rw [g0, g1, hon0] at e2
  exact ⟨e2, e15, e16, e20, e22⟩

def ex39bffF : List Ex := [
.feq (.v 19) (.c 1),
.feq (.v 18) (.c 0),
.op 17 [(.v 4), (.v 6), (.v 7), (.v 12), (.v 14), (.v 15)],
.op 16 [(.v 4), (.v 6), (.v 7), (.v 12), (.v 14), (.v 15)],
.op 15 [(.v 4), (.v 6), (.v 7), (.v 12), (.v 14), (.v 15)],
.fcst 0,
.fcst 1,
.fcst 0,
.fcst 0,
.fcst 0,
.fcst 1,
.fcst 0,
.fcst 0,
.fcst 0,
.fcst 1,
.fcst 0,
.fcst 0,
.fcst 0,
.fcst 1,
.fcst 0,
.fcst 0]
def dec39bffF : List (Nat × Bool) := [(19, true), (20, true)]
def fix39bffF : Fix := fixD 42 2 [] [] dec39bffF
def br39bffF : BriefR := ⟨.ret, 21, ex39bffF, [], [.one (.slc 22 0 1 57), .one (.lit (.bool true))], [some (farRow)]⟩
theorem run39bffF : briefR (tabX true pointPrims xm4) Try.f39 [22] (runF (tabX true pointPrims xm4) fix39bffF 3000 Try.f39 (startSt [.one (.lit (.int .i64 1)), .one (.sl 0 0 1), .one (.sl 1 0 1)] [(0, [.lit (.int .u8 0)]), (1, [.lit (.int .u8 0)])] 0 2)) = some br39bffF := by kernel_rfl
theorem law39bffF {s : Nums} (hfar : padd (.far : Pt pp) .far = .far) (h : Holds s 21 ex39bffF) : s 19 = 1 ∧ s 20 = 1 := by
  obtain ⟨h20, h19, h18, h17, h16, h15, h14, h13, h12, h11, h10, h9, h8, h7, h6, h5, h4, h3, h2, h1, h0, _⟩ := h
  have e20 : s 20 = if s 19 = 1 then 1 else 0 := h20
  have e19 : s 19 = if s 18 = 0 then 1 else 0 := h19
  have e18 : s 18 = szN pq bq (s 4) (s 6) (s 7) (s 12) (s 14) (s 15) := h18
  have e17 : s 17 = syN pq bq (s 4) (s 6) (s 7) (s 12) (s 14) (s 15) := h17
  have e16 : s 16 = sxN pq bq (s 4) (s 6) (s 7) (s 12) (s 14) (s 15) := h16
  have e15 : s 15 = 0 := (show s 15 = 0 % pq from h15).trans (Nat.zero_mod _)
  have e14 : s 14 = 1 := (show s 14 = 1 % pq from h14).trans mod_one_pq
  have e13 : s 13 = 0 := (show s 13 = 0 % pq from h13).trans (Nat.zero_mod _)
  have e12 : s 12 = 0 := (show s 12 = 0 % pq from h12).trans (Nat.zero_mod _)
  have e11 : s 11 = 0 := (show s 11 = 0 % pq from h11).trans (Nat.zero_mod _)
  have e10 : s 10 = 1 := (show s 10 = 1 % pq from h10).trans mod_one_pq
  have e9 : s 9 = 0 := (show s 9 = 0 % pq from h9).trans (Nat.zero_mod _)
  have e8 : s 8 = 0 := (show s 8 = 0 % pq from h8).trans (Nat.zero_mod _)
  have e7 : s 7 = 0 := (show s 7 = 0 % pq from h7).trans (Nat.zero_mod _)
  have e6 : s 6 = 1 := (show s 6 = 1 % pq from h6).trans mod_one_pq
  have e5 : s 5 = 0 := (show s 5 = 0 % pq from h5).trans (Nat.zero_mod _)
  have e4 : s 4 = 0 := (show s 4 = 0 % pq from h4).trans (Nat.zero_mod _)
  have e3 : s 3 = 0 := (show s 3 = 0 % pq from h3).trans (Nat.zero_mod _)
  have e2 : s 2 = 1 := (show s 2 = 1 % pq from h2).trans mod_one_pq
  have e1 : s 1 = 0 := (show s 1 = 0 % pq from h1).trans (Nat.zero_mod _)
  have e0 : s 0 = 0 := (show s 0 = 0 % pq from h0).trans (Nat.zero_mod _)
  rw [e4, e6, e7, e12, e14, e15] at e16 e17 e18
  have key := add_nums far_on far_on (rep_zero fine) (rep_zero fine) e16 e17 e18
  have k0 := key.1 hfar
  rw [if_pos k0] at e19
  rw [if_pos e19] at e20
  exact ⟨e19, e20⟩

def ex39cppN : List Ex := [
.fmul (.v 9) (.v 14),
.fcst 0,
.fmul (.v 8) (.v 14),
.fcst 0,
.finv (.v 10),
.fcst 0,
.feq (.v 11) (.c 1),
.feq (.v 10) (.c 0),
.op 17 [(.v 0), (.v 1), (.v 5), (.v 0), (.v 1), (.v 5)],
.op 16 [(.v 0), (.v 1), (.v 5), (.v 0), (.v 1), (.v 5)],
.op 15 [(.v 0), (.v 1), (.v 5), (.v 0), (.v 1), (.v 5)],
.fcst 1,
.op 20 [(.v 2), (.v 3)],
.fcst 1,
.op 20 [(.v 0), (.v 1)]]
def dec39cppN : List (Nat × Bool) := [(4, true), (6, true), (11, false), (12, false)]
def fix39cppN : Fix := fixD 42 2 [] [] dec39cppN
def br39cppN : BriefR := ⟨.ret, 19, ex39cppN, [], [.one (.slc 10 0 57 57), .one (.lit (.bool true))], [some (ptRow 16 18)]⟩
theorem run39cppN : briefR (tabX true pointPrims xm4) Try.f39 [10] (runF (tabX true pointPrims xm4) fix39cppN 3000 Try.f39 (startSt [.one (.lit (.int .i64 2)), .one (.sl 0 0 57), .one (.sl 1 0 57)] [(0, ptRow 0 1), (1, ptRow 2 3)] 4 2)) = some br39cppN := by kernel_rfl
theorem law39cppN {s : Nums} {x0 y0 : Nat} (g0 : s 0 = x0) (g1 : s 1 = y0) (lx0 : x0 < pq) (ly0 : y0 < pq) (hon0 : onN x0 y0 = 1) {x1 y1 : Nat} (g2 : s 2 = x1) (g3 : s 3 = y1) (lx1 : x1 < pq) (ly1 : y1 < pq) (hon1 : onN x1 y1 = 1) (hfar : padd (ptN x0 y0) (ptN x0 y0) ≠ .far) (h : Holds s 19 ex39cppN) : s 4 = 1 ∧ s 6 = 1 ∧ s 11 = 0 ∧ s 12 = 0 ∧ s 16 = xOf (padd (ptN x0 y0) (ptN x0 y0)) ∧ s 18 = yOf (padd (ptN x0 y0) (ptN x0 y0)) := by
  obtain ⟨h18, h17, h16, h15, h14, h13, h12, h11, h10, h9, h8, h7, h6, h5, h4, _⟩ := h
  have e18 : s 18 = s 9 * s 14 % pq := h18
  have e17 : s 17 = 0 := (show s 17 = 0 % pq from h17).trans (Nat.zero_mod _)
  have e16 : s 16 = s 8 * s 14 % pq := h16
  have e15 : s 15 = 0 := (show s 15 = 0 % pq from h15).trans (Nat.zero_mod _)
  have e14 : s 14 = finvq (s 10) := h14
  have e13 : s 13 = 0 := (show s 13 = 0 % pq from h13).trans (Nat.zero_mod _)
  have e12 : s 12 = if s 11 = 1 then 1 else 0 := h12
  have e11 : s 11 = if s 10 = 0 then 1 else 0 := h11
  have e10 : s 10 = szN pq bq (s 0) (s 1) (s 5) (s 0) (s 1) (s 5) := h10
  have e9 : s 9 = syN pq bq (s 0) (s 1) (s 5) (s 0) (s 1) (s 5) := h9
  have e8 : s 8 = sxN pq bq (s 0) (s 1) (s 5) (s 0) (s 1) (s 5) := h8
  have e7 : s 7 = 1 := (show s 7 = 1 % pq from h7).trans mod_one_pq
  have e6 : s 6 = onN (s 2) (s 3) := h6
  have e5 : s 5 = 1 := (show s 5 = 1 % pq from h5).trans mod_one_pq
  have e4 : s 4 = onN (s 0) (s 1) := h4
  rw [g0, g1, e5] at e8 e9 e10
  have key := add_nums (onN_on hon0) (onN_on hon0) (rep_one fine x0 y0) (rep_one fine x0 y0) e8 e9 e10
  obtain ⟨k0, k1, k2⟩ := key.2 hfar
  rw [if_neg k0] at e11
  rw [if_neg (by rw [e11]; decide)] at e12
  rw [e14, k1] at e16
  rw [e14, k2] at e18
  rw [g2, g3, hon1] at e6
  rw [g0, g1, hon0] at e4
  exact ⟨e4, e6, e11, e12, e16, e18⟩

def ex39cfpF : List Ex := [
.feq (.v 15) (.c 1),
.feq (.v 14) (.c 0),
.op 17 [(.v 6), (.v 8), (.v 9), (.v 6), (.v 8), (.v 9)],
.op 16 [(.v 6), (.v 8), (.v 9), (.v 6), (.v 8), (.v 9)],
.op 15 [(.v 6), (.v 8), (.v 9), (.v 6), (.v 8), (.v 9)],
.fcst 1,
.op 20 [(.v 0), (.v 1)],
.fcst 0,
.fcst 1,
.fcst 0,
.fcst 0,
.fcst 0,
.fcst 1,
.fcst 0,
.fcst 0]
def dec39cfpF : List (Nat × Bool) := [(10, true), (15, true), (16, true)]
def fix39cfpF : Fix := fixD 42 2 [] [] dec39cfpF
def br39cfpF : BriefR := ⟨.ret, 17, ex39cfpF, [], [.one (.slc 16 0 1 57), .one (.lit (.bool true))], [some (farRow)]⟩
theorem run39cfpF : briefR (tabX true pointPrims xm4) Try.f39 [16] (runF (tabX true pointPrims xm4) fix39cfpF 3000 Try.f39 (startSt [.one (.lit (.int .i64 2)), .one (.sl 0 0 1), .one (.sl 1 0 57)] [(0, [.lit (.int .u8 0)]), (1, ptRow 0 1)] 2 2)) = some br39cfpF := by kernel_rfl
theorem law39cfpF {s : Nums} {x1 y1 : Nat} (g0 : s 0 = x1) (g1 : s 1 = y1) (lx1 : x1 < pq) (ly1 : y1 < pq) (hon1 : onN x1 y1 = 1) (hfar : padd (.far : Pt pp) .far = .far) (h : Holds s 17 ex39cfpF) : s 10 = 1 ∧ s 15 = 1 ∧ s 16 = 1 := by
  obtain ⟨h16, h15, h14, h13, h12, h11, h10, h9, h8, h7, h6, h5, h4, h3, h2, _⟩ := h
  have e16 : s 16 = if s 15 = 1 then 1 else 0 := h16
  have e15 : s 15 = if s 14 = 0 then 1 else 0 := h15
  have e14 : s 14 = szN pq bq (s 6) (s 8) (s 9) (s 6) (s 8) (s 9) := h14
  have e13 : s 13 = syN pq bq (s 6) (s 8) (s 9) (s 6) (s 8) (s 9) := h13
  have e12 : s 12 = sxN pq bq (s 6) (s 8) (s 9) (s 6) (s 8) (s 9) := h12
  have e11 : s 11 = 1 := (show s 11 = 1 % pq from h11).trans mod_one_pq
  have e10 : s 10 = onN (s 0) (s 1) := h10
  have e9 : s 9 = 0 := (show s 9 = 0 % pq from h9).trans (Nat.zero_mod _)
  have e8 : s 8 = 1 := (show s 8 = 1 % pq from h8).trans mod_one_pq
  have e7 : s 7 = 0 := (show s 7 = 0 % pq from h7).trans (Nat.zero_mod _)
  have e6 : s 6 = 0 := (show s 6 = 0 % pq from h6).trans (Nat.zero_mod _)
  have e5 : s 5 = 0 := (show s 5 = 0 % pq from h5).trans (Nat.zero_mod _)
  have e4 : s 4 = 1 := (show s 4 = 1 % pq from h4).trans mod_one_pq
  have e3 : s 3 = 0 := (show s 3 = 0 % pq from h3).trans (Nat.zero_mod _)
  have e2 : s 2 = 0 := (show s 2 = 0 % pq from h2).trans (Nat.zero_mod _)
  rw [e6, e8, e9] at e12 e13 e14
  have key := add_nums far_on far_on (rep_zero fine) (rep_zero fine) e12 e13 e14
  have k0 := key.1 hfar
  rw [if_pos k0] at e15
  rw [if_pos e15] at e16
  rw [g0, g1, hon1] at e10
  exact ⟨e10, e15, e16⟩

def ex39cpfN : List Ex := [
.fmul (.v 13) (.v 18),
.fcst 0,
.fmul (.v 12) (.v 18),
.fcst 0,
.finv (.v 14),
.fcst 0,
.feq (.v 15) (.c 1),
.feq (.v 14) (.c 0),
.op 17 [(.v 0), (.v 1), (.v 3), (.v 0), (.v 1), (.v 3)],
.op 16 [(.v 0), (.v 1), (.v 3), (.v 0), (.v 1), (.v 3)],
.op 15 [(.v 0), (.v 1), (.v 3), (.v 0), (.v 1), (.v 3)],
.fcst 0,
.fcst 1,
.fcst 0,
.fcst 0,
.fcst 0,
.fcst 1,
.fcst 0,
.fcst 0,
.fcst 1,
.op 20 [(.v 0), (.v 1)]]
def dec39cpfN : List (Nat × Bool) := [(2, true), (15, false), (16, false)]
def fix39cpfN : Fix := fixD 42 2 [] [] dec39cpfN
def br39cpfN : BriefR := ⟨.ret, 23, ex39cpfN, [], [.one (.slc 16 0 57 57), .one (.lit (.bool true))], [some (ptRow 20 22)]⟩
theorem run39cpfN : briefR (tabX true pointPrims xm4) Try.f39 [16] (runF (tabX true pointPrims xm4) fix39cpfN 3000 Try.f39 (startSt [.one (.lit (.int .i64 2)), .one (.sl 0 0 57), .one (.sl 1 0 1)] [(0, ptRow 0 1), (1, [.lit (.int .u8 0)])] 2 2)) = some br39cpfN := by kernel_rfl
theorem law39cpfN {s : Nums} {x0 y0 : Nat} (g0 : s 0 = x0) (g1 : s 1 = y0) (lx0 : x0 < pq) (ly0 : y0 < pq) (hon0 : onN x0 y0 = 1) (hfar : padd (ptN x0 y0) (ptN x0 y0) ≠ .far) (h : Holds s 23 ex39cpfN) : s 2 = 1 ∧ s 15 = 0 ∧ s 16 = 0 ∧ s 20 = xOf (padd (ptN x0 y0) (ptN x0 y0)) ∧ s 22 = yOf (padd (ptN x0 y0) (ptN x0 y0)) := by
  obtain ⟨h22, h21, h20, h19, h18, h17, h16, h15, h14, h13, h12, h11, h10, h9, h8, h7, h6, h5, h4, h3, h2, _⟩ := h
  have e22 : s 22 = s 13 * s 18 % pq := h22
  have e21 : s 21 = 0 := (show s 21 = 0 % pq from h21).trans (Nat.zero_mod _)
  have e20 : s 20 = s 12 * s 18 % pq := h20
  have e19 : s 19 = 0 := (show s 19 = 0 % pq from h19).trans (Nat.zero_mod _)
  have e18 : s 18 = finvq (s 14) := h18
  have e17 : s 17 = 0 := (show s 17 = 0 % pq from h17).trans (Nat.zero_mod _)
  have e16 : s 16 = if s 15 = 1 then 1 else 0 := h16
  have e15 : s 15 = if s 14 = 0 then 1 else 0 := h15
  have e14 : s 14 = szN pq bq (s 0) (s 1) (s 3) (s 0) (s 1) (s 3) := h14
  have e13 : s 13 = syN pq bq (s 0) (s 1) (s 3) (s 0) (s 1) (s 3) := h13
  have e12 : s 12 = sxN pq bq (s 0) (s 1) (s 3) (s 0) (s 1) (s 3) := h12
  have e11 : s 11 = 0 := (show s 11 = 0 % pq from h11).trans (Nat.zero_mod _)
  have e10 : s 10 = 1 := (show s 10 = 1 % pq from h10).trans mod_one_pq
  have e9 : s 9 = 0 := (show s 9 = 0 % pq from h9).trans (Nat.zero_mod _)
  have e8 : s 8 = 0 := (show s 8 = 0 % pq from h8).trans (Nat.zero_mod _)
  have e7 : s 7 = 0 := (show s 7 = 0 % pq from h7).trans (Nat.zero_mod _)
  have e6 : s 6 = 1 := (show s 6 = 1 % pq from h6).trans mod_one_pq
  have e5 : s 5 = 0 := (show s 5 = 0 % pq from h5).trans (Nat.zero_mod _)
  have e4 : s 4 = 0 := (show s 4 = 0 % pq from h4).trans (Nat.zero_mod _)
  have e3 : s 3 = 1 := (show s 3 = 1 % pq from h3).trans mod_one_pq
  have e2 : s 2 = onN (s 0) (s 1) := h2
  rw [g0, g1, e3] at e12 e13 e14
  have key := add_nums (onN_on hon0) (onN_on hon0) (rep_one fine x0 y0) (rep_one fine x0 y0) e12 e13 e14
  obtain ⟨k0, k1, k2⟩ := key.2 hfar
  rw [if_neg k0] at e15
  rw [if_neg (by rw [e15]; decide)] at e16
  rw [e18, k1] at e20
  rw [e18, k2] at e22
  rw [g0, g1, hon0] at e2
  exact ⟨e2, e15, e16, e20, e22⟩

def ex39cffF : List Ex := [
.feq (.v 19) (.c 1),
.feq (.v 18) (.c 0),
.op 17 [(.v 4), (.v 6), (.v 7), (.v 4), (.v 6), (.v 7)],
.op 16 [(.v 4), (.v 6), (.v 7), (.v 4), (.v 6), (.v 7)],
.op 15 [(.v 4), (.v 6), (.v 7), (.v 4), (.v 6), (.v 7)],
.fcst 0,
.fcst 1,
.fcst 0,
.fcst 0,
.fcst 0,
.fcst 1,
.fcst 0,
.fcst 0,
.fcst 0,
.fcst 1,
.fcst 0,
.fcst 0,
.fcst 0,
.fcst 1,
.fcst 0,
.fcst 0]
def dec39cffF : List (Nat × Bool) := [(19, true), (20, true)]
def fix39cffF : Fix := fixD 42 2 [] [] dec39cffF
def br39cffF : BriefR := ⟨.ret, 21, ex39cffF, [], [.one (.slc 22 0 1 57), .one (.lit (.bool true))], [some (farRow)]⟩
theorem run39cffF : briefR (tabX true pointPrims xm4) Try.f39 [22] (runF (tabX true pointPrims xm4) fix39cffF 3000 Try.f39 (startSt [.one (.lit (.int .i64 2)), .one (.sl 0 0 1), .one (.sl 1 0 1)] [(0, [.lit (.int .u8 0)]), (1, [.lit (.int .u8 0)])] 0 2)) = some br39cffF := by kernel_rfl
theorem law39cffF {s : Nums} (hfar : padd (.far : Pt pp) .far = .far) (h : Holds s 21 ex39cffF) : s 19 = 1 ∧ s 20 = 1 := by
  obtain ⟨h20, h19, h18, h17, h16, h15, h14, h13, h12, h11, h10, h9, h8, h7, h6, h5, h4, h3, h2, h1, h0, _⟩ := h
  have e20 : s 20 = if s 19 = 1 then 1 else 0 := h20
  have e19 : s 19 = if s 18 = 0 then 1 else 0 := h19
  have e18 : s 18 = szN pq bq (s 4) (s 6) (s 7) (s 4) (s 6) (s 7) := h18
  have e17 : s 17 = syN pq bq (s 4) (s 6) (s 7) (s 4) (s 6) (s 7) := h17
  have e16 : s 16 = sxN pq bq (s 4) (s 6) (s 7) (s 4) (s 6) (s 7) := h16
  have e15 : s 15 = 0 := (show s 15 = 0 % pq from h15).trans (Nat.zero_mod _)
  have e14 : s 14 = 1 := (show s 14 = 1 % pq from h14).trans mod_one_pq
  have e13 : s 13 = 0 := (show s 13 = 0 % pq from h13).trans (Nat.zero_mod _)
  have e12 : s 12 = 0 := (show s 12 = 0 % pq from h12).trans (Nat.zero_mod _)
  have e11 : s 11 = 0 := (show s 11 = 0 % pq from h11).trans (Nat.zero_mod _)
  have e10 : s 10 = 1 := (show s 10 = 1 % pq from h10).trans mod_one_pq
  have e9 : s 9 = 0 := (show s 9 = 0 % pq from h9).trans (Nat.zero_mod _)
  have e8 : s 8 = 0 := (show s 8 = 0 % pq from h8).trans (Nat.zero_mod _)
  have e7 : s 7 = 0 := (show s 7 = 0 % pq from h7).trans (Nat.zero_mod _)
  have e6 : s 6 = 1 := (show s 6 = 1 % pq from h6).trans mod_one_pq
  have e5 : s 5 = 0 := (show s 5 = 0 % pq from h5).trans (Nat.zero_mod _)
  have e4 : s 4 = 0 := (show s 4 = 0 % pq from h4).trans (Nat.zero_mod _)
  have e3 : s 3 = 0 := (show s 3 = 0 % pq from h3).trans (Nat.zero_mod _)
  have e2 : s 2 = 1 := (show s 2 = 1 % pq from h2).trans mod_one_pq
  have e1 : s 1 = 0 := (show s 1 = 0 % pq from h1).trans (Nat.zero_mod _)
  have e0 : s 0 = 0 := (show s 0 = 0 % pq from h0).trans (Nat.zero_mod _)
  rw [e4, e6, e7] at e16 e17 e18
  have key := add_nums far_on far_on (rep_zero fine) (rep_zero fine) e16 e17 e18
  have k0 := key.1 hfar
  rw [if_pos k0] at e19
  rw [if_pos e19] at e20
  exact ⟨e19, e20⟩

theorem meets39 (w : World) (n : Nat) (hn : n < 3) (v1 v2 : Value) {p q : Pt pp} (h1 : PtAt w v1 p) (h2 : PtAt w v2 q) : Meets Try.prog 39 #[.int .i64 (n : Int), v1, v2] w (OutPt w (if n = 2 then padd p p else padd p q)) := by
  refine meets_of_calls Try.func39 (by kernel_rfl) (by kernel_rfl) ?_
  have h012 : n = 0 ∨ n = 1 ∨ n = 2 := by omega
  rcases h012 with rfl | rfl | rfl
  · rw [if_neg (by decide)]
    cases h1 with
    | far b0 o0 c0 hv0 hc0 hp0 =>
      subst hv0
      have lt0 : b0 < w.heap.size := World.block_lt_of_cell? w _ hp0
      cases h2 with
      | far b1 o1 c1 hv1 hc1 hp1 =>
        subst hv1
        have lt1 : b1 < w.heap.size := World.block_lt_of_cell? w _ hp1
        have hfar : padd (.far : Pt pp) .far = .far := rfl
        refine calls_briefR (F := fix39affF) (tabX_ok pointPrims_ok xm4_ok) run39affF Try.func39 Try.ntmps39 rfl (by decide +kernel) (by decide +kernel) (by decide +kernel) (show 3 ≤ 42 by decide) (show 3 < 4095 by decide) (fun _ => 0) (fun r => if r = 0 then (b0, o0) else (b1, o1))
          (vals := [.int .i64 0, _, _]) (fun s hs => ⟨rfl, ⟨c0, hc0, rfl, show 0 < 2 by decide⟩, ⟨c1, hc1, rfl, show 1 < 2 by decide⟩, trivial⟩) (fun s hs => ⟨show 0 < 2 by decide, ⟨⟨_, hp0, rfl⟩, trivial⟩, show 1 < 2 by decide, ⟨⟨_, hp1, rfl⟩, trivial⟩, trivial⟩) (fun r l hl hr => by cases hr) (fun r _ => (by show (if r = 0 then (b0, o0) else (b1, o1)).1 < _; split; exact lt0; exact lt1)) (fun r q _ _ h => by cases h) ?_ ?_
        · intro s hs hH i bb hb
          obtain ⟨q0, q1⟩ := law39affF hfar hH
          have := findT_mem (show findT i dec39affF = some bb from hb)
          simp only [dec39affF, List.mem_cons, List.not_mem_nil, or_false, Prod.mk.injEq] at this
          rcases this with ⟨rfl, rfl⟩ | ⟨rfl, rfl⟩ <;> assumption
        · intro s hs hH st' β' a' w' v hv hm hag hr hbe
          obtain ⟨q0, q1⟩ := law39affF hfar hH
          injection (show [lookup 22 st'.mem] = [some farRow] from hm) with hm
          exact ⟨_, rfl, _, out_far hv, (newAt_far hr (l := List.replicate 56 (.lit (.int .u8 0))) hm (show 2 ≤ 22 by decide) hbe rfl).of_eq hfar⟩
      | on b1 o1 c1 x1 y1 hv1 hc1 hp1 lx1 ly1 hon1 =>
        subst hv1
        have lt1 : b1 < w.heap.size := World.block_lt_of_cell? w _ (hp1 0 4 rfl)
        have hfar : padd .far (ptN x1 y1) ≠ .far := fun h => by cases h
        refine calls_briefR (F := fix39afpN) (tabX_ok pointPrims_ok xm4_ok) run39afpN Try.func39 Try.ntmps39 rfl (by decide +kernel) (by decide +kernel) (by decide +kernel) (show 3 ≤ 42 by decide) (show 3 < 4095 by decide) (fun i => if i = 0 then x1 else y1) (fun r => if r = 0 then (b0, o0) else (b1, o1))
          (vals := [.int .i64 0, _, _]) (fun s hs => ⟨rfl, ⟨c0, hc0, rfl, show 0 < 2 by decide⟩, ⟨c1, hc1, rfl, show 1 < 2 by decide⟩, trivial⟩) (fun s hs => ⟨show 0 < 2 by decide, ⟨⟨_, hp0, rfl⟩, trivial⟩, show 1 < 2 by decide, ptRow_row rfl hp1 (hs 0 (by decide)) (hs 1 (by decide)) lx1 ly1, trivial⟩) (fun r l hl hr => by cases hr) (fun r _ => (by show (if r = 0 then (b0, o0) else (b1, o1)).1 < _; split; exact lt0; exact lt1)) (fun r q _ _ h => by cases h) ?_ ?_
        · intro s hs hH i bb hb
          obtain ⟨q0, q1, q2, q3, q4⟩ := law39afpN (hs 0 (by decide)) (hs 1 (by decide)) lx1 ly1 hon1 hfar hH
          have := findT_mem (show findT i dec39afpN = some bb from hb)
          simp only [dec39afpN, List.mem_cons, List.not_mem_nil, or_false, Prod.mk.injEq] at this
          rcases this with ⟨rfl, rfl⟩ | ⟨rfl, rfl⟩ | ⟨rfl, rfl⟩ <;> assumption
        · intro s hs hH st' β' a' w' v hv hm hag hr hbe
          obtain ⟨q0, q1, q2, q3, q4⟩ := law39afpN (hs 0 (by decide)) (hs 1 (by decide)) lx1 ly1 hon1 hfar hH
          injection (show [lookup 16 st'.mem] = [some (ptRow 20 22)] from hm) with hm
          exact ⟨_, rfl, _, out_on hv, (newAt_on hr hm (show 2 ≤ 16 by decide) hbe q3 q4 (xOf_lt _) (yOf_lt _) rfl).of_eq (on_eq hfar)⟩
    | on b0 o0 c0 x0 y0 hv0 hc0 hp0 lx0 ly0 hon0 =>
      subst hv0
      have lt0 : b0 < w.heap.size := World.block_lt_of_cell? w _ (hp0 0 4 rfl)
      cases h2 with
      | far b1 o1 c1 hv1 hc1 hp1 =>
        subst hv1
        have lt1 : b1 < w.heap.size := World.block_lt_of_cell? w _ hp1
        have hfar : padd (ptN x0 y0) .far ≠ .far := fun h => by cases h
        refine calls_briefR (F := fix39apfN) (tabX_ok pointPrims_ok xm4_ok) run39apfN Try.func39 Try.ntmps39 rfl (by decide +kernel) (by decide +kernel) (by decide +kernel) (show 3 ≤ 42 by decide) (show 3 < 4095 by decide) (fun i => if i = 0 then x0 else y0) (fun r => if r = 0 then (b0, o0) else (b1, o1))
          (vals := [.int .i64 0, _, _]) (fun s hs => ⟨rfl, ⟨c0, hc0, rfl, show 0 < 2 by decide⟩, ⟨c1, hc1, rfl, show 1 < 2 by decide⟩, trivial⟩) (fun s hs => ⟨show 0 < 2 by decide, ptRow_row rfl hp0 (hs 0 (by decide)) (hs 1 (by decide)) lx0 ly0, show 1 < 2 by decide, ⟨⟨_, hp1, rfl⟩, trivial⟩, trivial⟩) (fun r l hl hr => by cases hr) (fun r _ => (by show (if r = 0 then (b0, o0) else (b1, o1)).1 < _; split; exact lt0; exact lt1)) (fun r q _ _ h => by cases h) ?_ ?_
        · intro s hs hH i bb hb
          obtain ⟨q0, q1, q2, q3, q4⟩ := law39apfN (hs 0 (by decide)) (hs 1 (by decide)) lx0 ly0 hon0 hfar hH
          have := findT_mem (show findT i dec39apfN = some bb from hb)
          simp only [dec39apfN, List.mem_cons, List.not_mem_nil, or_false, Prod.mk.injEq] at this
          rcases this with ⟨rfl, rfl⟩ | ⟨rfl, rfl⟩ | ⟨rfl, rfl⟩ <;> assumption
        · intro s hs hH st' β' a' w' v hv hm hag hr hbe
          obtain ⟨q0, q1, q2, q3, q4⟩ := law39apfN (hs 0 (by decide)) (hs 1 (by decide)) lx0 ly0 hon0 hfar hH
          injection (show [lookup 16 st'.mem] = [some (ptRow 20 22)] from hm) with hm
          exact ⟨_, rfl, _, out_on hv, (newAt_on hr hm (show 2 ≤ 16 by decide) hbe q3 q4 (xOf_lt _) (yOf_lt _) rfl).of_eq (on_eq hfar)⟩
      | on b1 o1 c1 x1 y1 hv1 hc1 hp1 lx1 ly1 hon1 =>
        subst hv1
        have lt1 : b1 < w.heap.size := World.block_lt_of_cell? w _ (hp1 0 4 rfl)
        by_cases hfar : padd (ptN x0 y0) (ptN x1 y1) = .far
        · skip
          refine calls_briefR (F := fix39appF) (tabX_ok pointPrims_ok xm4_ok) run39appF Try.func39 Try.ntmps39 rfl (by decide +kernel) (by decide +kernel) (by decide +kernel) (show 3 ≤ 42 by decide) (show 3 < 4095 by decide) (fun i => if i = 0 then x0 else if i = 1 then y0 else if i = 2 then x1 else y1) (fun r => if r = 0 then (b0, o0) else (b1, o1))
            (vals := [.int .i64 0, _, _]) (fun s hs => ⟨rfl, ⟨c0, hc0, rfl, show 0 < 2 by decide⟩, ⟨c1, hc1, rfl, show 1 < 2 by decide⟩, trivial⟩) (fun s hs => ⟨show 0 < 2 by decide, ptRow_row rfl hp0 (hs 0 (by decide)) (hs 1 (by decide)) lx0 ly0, show 1 < 2 by decide, ptRow_row rfl hp1 (hs 2 (by decide)) (hs 3 (by decide)) lx1 ly1, trivial⟩) (fun r l hl hr => by cases hr) (fun r _ => (by show (if r = 0 then (b0, o0) else (b1, o1)).1 < _; split; exact lt0; exact lt1)) (fun r q _ _ h => by cases h) ?_ ?_
          · intro s hs hH i bb hb
            obtain ⟨q0, q1, q2, q3⟩ := law39appF (hs 0 (by decide)) (hs 1 (by decide)) lx0 ly0 hon0 (hs 2 (by decide)) (hs 3 (by decide)) lx1 ly1 hon1 hfar hH
            have := findT_mem (show findT i dec39appF = some bb from hb)
            simp only [dec39appF, List.mem_cons, List.not_mem_nil, or_false, Prod.mk.injEq] at this
            rcases this with ⟨rfl, rfl⟩ | ⟨rfl, rfl⟩ | ⟨rfl, rfl⟩ | ⟨rfl, rfl⟩ <;> assumption
          · intro s hs hH st' β' a' w' v hv hm hag hr hbe
            obtain ⟨q0, q1, q2, q3⟩ := law39appF (hs 0 (by decide)) (hs 1 (by decide)) lx0 ly0 hon0 (hs 2 (by decide)) (hs 3 (by decide)) lx1 ly1 hon1 hfar hH
            injection (show [lookup 10 st'.mem] = [some farRow] from hm) with hm
            exact ⟨_, rfl, _, out_far hv, (newAt_far hr (l := List.replicate 56 (.lit (.int .u8 0))) hm (show 2 ≤ 10 by decide) hbe rfl).of_eq hfar⟩
        · skip
          refine calls_briefR (F := fix39appN) (tabX_ok pointPrims_ok xm4_ok) run39appN Try.func39 Try.ntmps39 rfl (by decide +kernel) (by decide +kernel) (by decide +kernel) (show 3 ≤ 42 by decide) (show 3 < 4095 by decide) (fun i => if i = 0 then x0 else if i = 1 then y0 else if i = 2 then x1 else y1) (fun r => if r = 0 then (b0, o0) else (b1, o1))
            (vals := [.int .i64 0, _, _]) (fun s hs => ⟨rfl, ⟨c0, hc0, rfl, show 0 < 2 by decide⟩, ⟨c1, hc1, rfl, show 1 < 2 by decide⟩, trivial⟩) (fun s hs => ⟨show 0 < 2 by decide, ptRow_row rfl hp0 (hs 0 (by decide)) (hs 1 (by decide)) lx0 ly0, show 1 < 2 by decide, ptRow_row rfl hp1 (hs 2 (by decide)) (hs 3 (by decide)) lx1 ly1, trivial⟩) (fun r l hl hr => by cases hr) (fun r _ => (by show (if r = 0 then (b0, o0) else (b1, o1)).1 < _; split; exact lt0; exact lt1)) (fun r q _ _ h => by cases h) ?_ ?_
          · intro s hs hH i bb hb
            obtain ⟨q0, q1, q2, q3, q4, q5⟩ := law39appN (hs 0 (by decide)) (hs 1 (by decide)) lx0 ly0 hon0 (hs 2 (by decide)) (hs 3 (by decide)) lx1 ly1 hon1 hfar hH
            have := findT_mem (show findT i dec39appN = some bb from hb)
            simp only [dec39appN, List.mem_cons, List.not_mem_nil, or_false, Prod.mk.injEq] at this
            rcases this with ⟨rfl, rfl⟩ | ⟨rfl, rfl⟩ | ⟨rfl, rfl⟩ | ⟨rfl, rfl⟩ <;> assumption
          · intro s hs hH st' β' a' w' v hv hm hag hr hbe
            obtain ⟨q0, q1, q2, q3, q4, q5⟩ := law39appN (hs 0 (by decide)) (hs 1 (by decide)) lx0 ly0 hon0 (hs 2 (by decide)) (hs 3 (by decide)) lx1 ly1 hon1 hfar hH
            injection (show [lookup 10 st'.mem] = [some (ptRow 16 18)] from hm) with hm
            exact ⟨_, rfl, _, out_on hv, (newAt_on hr hm (show 2 ≤ 10 by decide) hbe q4 q5 (xOf_lt _) (yOf_lt _) rfl).of_eq (on_eq hfar)⟩
  · rw [if_neg (by decide)]
    cases h1 with
    | far b0 o0 c0 hv0 hc0 hp0 =>
      subst hv0
      have lt0 : b0 < w.heap.size := World.block_lt_of_cell? w _ hp0
      cases h2 with
      | far b1 o1 c1 hv1 hc1 hp1 =>
        subst hv1
        have lt1 : b1 < w.heap.size := World.block_lt_of_cell? w _ hp1
        have hfar : padd (.far : Pt pp) .far = .far := rfl
        refine calls_briefR (F := fix39bffF) (tabX_ok pointPrims_ok xm4_ok) run39bffF Try.func39 Try.ntmps39 rfl (by decide +kernel) (by decide +kernel) (by decide +kernel) (show 3 ≤ 42 by decide) (show 3 < 4095 by decide) (fun _ => 0) (fun r => if r = 0 then (b0, o0) else (b1, o1))
          (vals := [.int .i64 1, _, _]) (fun s hs => ⟨rfl, ⟨c0, hc0, rfl, show 0 < 2 by decide⟩, ⟨c1, hc1, rfl, show 1 < 2 by decide⟩, trivial⟩) (fun s hs => ⟨show 0 < 2 by decide, ⟨⟨_, hp0, rfl⟩, trivial⟩, show 1 < 2 by decide, ⟨⟨_, hp1, rfl⟩, trivial⟩, trivial⟩) (fun r l hl hr => by cases hr) (fun r _ => (by show (if r = 0 then (b0, o0) else (b1, o1)).1 < _; split; exact lt0; exact lt1)) (fun r q _ _ h => by cases h) ?_ ?_
        · intro s hs hH i bb hb
          obtain ⟨q0, q1⟩ := law39bffF hfar hH
          have := findT_mem (show findT i dec39bffF = some bb from hb)
          simp only [dec39bffF, List.mem_cons, List.not_mem_nil, or_false, Prod.mk.injEq] at this
          rcases this with ⟨rfl, rfl⟩ | ⟨rfl, rfl⟩ <;> assumption
        · intro s hs hH st' β' a' w' v hv hm hag hr hbe
          obtain ⟨q0, q1⟩ := law39bffF hfar hH
          injection (show [lookup 22 st'.mem] = [some farRow] from hm) with hm
          exact ⟨_, rfl, _, out_far hv, (newAt_far hr (l := List.replicate 56 (.lit (.int .u8 0))) hm (show 2 ≤ 22 by decide) hbe rfl).of_eq hfar⟩
      | on b1 o1 c1 x1 y1 hv1 hc1 hp1 lx1 ly1 hon1 =>
        subst hv1
        have lt1 : b1 < w.heap.size := World.block_lt_of_cell? w _ (hp1 0 4 rfl)
        have hfar : padd .far (ptN x1 y1) ≠ .far := fun h => by cases h
        refine calls_briefR (F := fix39bfpN) (tabX_ok pointPrims_ok xm4_ok) run39bfpN Try.func39 Try.ntmps39 rfl (by decide +kernel) (by decide +kernel) (by decide +kernel) (show 3 ≤ 42 by decide) (show 3 < 4095 by decide) (fun i => if i = 0 then x1 else y1) (fun r => if r = 0 then (b0, o0) else (b1, o1))
          (vals := [.int .i64 1, _, _]) (fun s hs => ⟨rfl, ⟨c0, hc0, rfl, show 0 < 2 by decide⟩, ⟨c1, hc1, rfl, show 1 < 2 by decide⟩, trivial⟩) (fun s hs => ⟨show 0 < 2 by decide, ⟨⟨_, hp0, rfl⟩, trivial⟩, show 1 < 2 by decide, ptRow_row rfl hp1 (hs 0 (by decide)) (hs 1 (by decide)) lx1 ly1, trivial⟩) (fun r l hl hr => by cases hr) (fun r _ => (by show (if r = 0 then (b0, o0) else (b1, o1)).1 < _; split; exact lt0; exact lt1)) (fun r q _ _ h => by cases h) ?_ ?_
        · intro s hs hH i bb hb
          obtain ⟨q0, q1, q2, q3, q4⟩ := law39bfpN (hs 0 (by decide)) (hs 1 (by decide)) lx1 ly1 hon1 hfar hH
          have := findT_mem (show findT i dec39bfpN = some bb from hb)
          simp only [dec39bfpN, List.mem_cons, List.not_mem_nil, or_false, Prod.mk.injEq] at this
          rcases this with ⟨rfl, rfl⟩ | ⟨rfl, rfl⟩ | ⟨rfl, rfl⟩ <;> assumption
        · intro s hs hH st' β' a' w' v hv hm hag hr hbe
          obtain ⟨q0, q1, q2, q3, q4⟩ := law39bfpN (hs 0 (by decide)) (hs 1 (by decide)) lx1 ly1 hon1 hfar hH
          injection (show [lookup 16 st'.mem] = [some (ptRow 20 22)] from hm) with hm
          exact ⟨_, rfl, _, out_on hv, (newAt_on hr hm (show 2 ≤ 16 by decide) hbe q3 q4 (xOf_lt _) (yOf_lt _) rfl).of_eq (on_eq hfar)⟩
    | on b0 o0 c0 x0 y0 hv0 hc0 hp0 lx0 ly0 hon0 =>
      subst hv0
      have lt0 : b0 < w.heap.size := World.block_lt_of_cell? w _ (hp0 0 4 rfl)
      cases h2 with
      | far b1 o1 c1 hv1 hc1 hp1 =>
        subst hv1
        have lt1 : b1 < w.heap.size := World.block_lt_of_cell? w _ hp1
        have hfar : padd (ptN x0 y0) .far ≠ .far := fun h => by cases h
        refine calls_briefR (F := fix39bpfN) (tabX_ok pointPrims_ok xm4_ok) run39bpfN Try.func39 Try.ntmps39 rfl (by decide +kernel) (by decide +kernel) (by decide +kernel) (show 3 ≤ 42 by decide) (show 3 < 4095 by decide) (fun i => if i = 0 then x0 else y0) (fun r => if r = 0 then (b0, o0) else (b1, o1))
          (vals := [.int .i64 1, _, _]) (fun s hs => ⟨rfl, ⟨c0, hc0, rfl, show 0 < 2 by decide⟩, ⟨c1, hc1, rfl, show 1 < 2 by decide⟩, trivial⟩) (fun s hs => ⟨show 0 < 2 by decide, ptRow_row rfl hp0 (hs 0 (by decide)) (hs 1 (by decide)) lx0 ly0, show 1 < 2 by decide, ⟨⟨_, hp1, rfl⟩, trivial⟩, trivial⟩) (fun r l hl hr => by cases hr) (fun r _ => (by show (if r = 0 then (b0, o0) else (b1, o1)).1 < _; split; exact lt0; exact lt1)) (fun r q _ _ h => by cases h) ?_ ?_
        · intro s hs hH i bb hb
          obtain ⟨q0, q1, q2, q3, q4⟩ := law39bpfN (hs 0 (by decide)) (hs 1 (by decide)) lx0 ly0 hon0 hfar hH
          have := findT_mem (show findT i dec39bpfN = some bb from hb)
          simp only [dec39bpfN, List.mem_cons, List.not_mem_nil, or_false, Prod.mk.injEq] at this
          rcases this with ⟨rfl, rfl⟩ | ⟨rfl, rfl⟩ | ⟨rfl, rfl⟩ <;> assumption
        · intro s hs hH st' β' a' w' v hv hm hag hr hbe
          obtain ⟨q0, q1, q2, q3, q4⟩ := law39bpfN (hs 0 (by decide)) (hs 1 (by decide)) lx0 ly0 hon0 hfar hH
          injection (show [lookup 16 st'.mem] = [some (ptRow 20 22)] from hm) with hm
          exact ⟨_, rfl, _, out_on hv, (newAt_on hr hm (show 2 ≤ 16 by decide) hbe q3 q4 (xOf_lt _) (yOf_lt _) rfl).of_eq (on_eq hfar)⟩
      | on b1 o1 c1 x1 y1 hv1 hc1 hp1 lx1 ly1 hon1 =>
        subst hv1
        have lt1 : b1 < w.heap.size := World.block_lt_of_cell? w _ (hp1 0 4 rfl)
        by_cases hfar : padd (ptN x0 y0) (ptN x1 y1) = .far
        · skip
          refine calls_briefR (F := fix39bppF) (tabX_ok pointPrims_ok xm4_ok) run39bppF Try.func39 Try.ntmps39 rfl (by decide +kernel) (by decide +kernel) (by decide +kernel) (show 3 ≤ 42 by decide) (show 3 < 4095 by decide) (fun i => if i = 0 then x0 else if i = 1 then y0 else if i = 2 then x1 else y1) (fun r => if r = 0 then (b0, o0) else (b1, o1))
            (vals := [.int .i64 1, _, _]) (fun s hs => ⟨rfl, ⟨c0, hc0, rfl, show 0 < 2 by decide⟩, ⟨c1, hc1, rfl, show 1 < 2 by decide⟩, trivial⟩) (fun s hs => ⟨show 0 < 2 by decide, ptRow_row rfl hp0 (hs 0 (by decide)) (hs 1 (by decide)) lx0 ly0, show 1 < 2 by decide, ptRow_row rfl hp1 (hs 2 (by decide)) (hs 3 (by decide)) lx1 ly1, trivial⟩) (fun r l hl hr => by cases hr) (fun r _ => (by show (if r = 0 then (b0, o0) else (b1, o1)).1 < _; split; exact lt0; exact lt1)) (fun r q _ _ h => by cases h) ?_ ?_
          · intro s hs hH i bb hb
            obtain ⟨q0, q1, q2, q3⟩ := law39bppF (hs 0 (by decide)) (hs 1 (by decide)) lx0 ly0 hon0 (hs 2 (by decide)) (hs 3 (by decide)) lx1 ly1 hon1 hfar hH
            have := findT_mem (show findT i dec39bppF = some bb from hb)
            simp only [dec39bppF, List.mem_cons, List.not_mem_nil, or_false, Prod.mk.injEq] at this
            rcases this with ⟨rfl, rfl⟩ | ⟨rfl, rfl⟩ | ⟨rfl, rfl⟩ | ⟨rfl, rfl⟩ <;> assumption
          · intro s hs hH st' β' a' w' v hv hm hag hr hbe
            obtain ⟨q0, q1, q2, q3⟩ := law39bppF (hs 0 (by decide)) (hs 1 (by decide)) lx0 ly0 hon0 (hs 2 (by decide)) (hs 3 (by decide)) lx1 ly1 hon1 hfar hH
            injection (show [lookup 10 st'.mem] = [some farRow] from hm) with hm
            exact ⟨_, rfl, _, out_far hv, (newAt_far hr (l := List.replicate 56 (.lit (.int .u8 0))) hm (show 2 ≤ 10 by decide) hbe rfl).of_eq hfar⟩
        · skip
          refine calls_briefR (F := fix39bppN) (tabX_ok pointPrims_ok xm4_ok) run39bppN Try.func39 Try.ntmps39 rfl (by decide +kernel) (by decide +kernel) (by decide +kernel) (show 3 ≤ 42 by decide) (show 3 < 4095 by decide) (fun i => if i = 0 then x0 else if i = 1 then y0 else if i = 2 then x1 else y1) (fun r => if r = 0 then (b0, o0) else (b1, o1))
            (vals := [.int .i64 1, _, _]) (fun s hs => ⟨rfl, ⟨c0, hc0, rfl, show 0 < 2 by decide⟩, ⟨c1, hc1, rfl, show 1 < 2 by decide⟩, trivial⟩) (fun s hs => ⟨show 0 < 2 by decide, ptRow_row rfl hp0 (hs 0 (by decide)) (hs 1 (by decide)) lx0 ly0, show 1 < 2 by decide, ptRow_row rfl hp1 (hs 2 (by decide)) (hs 3 (by decide)) lx1 ly1, trivial⟩) (fun r l hl hr => by cases hr) (fun r _ => (by show (if r = 0 then (b0, o0) else (b1, o1)).1 < _; split; exact lt0; exact lt1)) (fun r q _ _ h => by cases h) ?_ ?_
          · intro s hs hH i bb hb
            obtain ⟨q0, q1, q2, q3, q4, q5⟩ := law39bppN (hs 0 (by decide)) (hs 1 (by decide)) lx0 ly0 hon0 (hs 2 (by decide)) (hs 3 (by decide)) lx1 ly1 hon1 hfar hH
            have := findT_mem (show findT i dec39bppN = some bb from hb)
            simp only [dec39bppN, List.mem_cons, List.not_mem_nil, or_false, Prod.mk.injEq] at this
            rcases this with ⟨rfl, rfl⟩ | ⟨rfl, rfl⟩ | ⟨rfl, rfl⟩ | ⟨rfl, rfl⟩ <;> assumption
          · intro s hs hH st' β' a' w' v hv hm hag hr hbe
            obtain ⟨q0, q1, q2, q3, q4, q5⟩ := law39bppN (hs 0 (by decide)) (hs 1 (by decide)) lx0 ly0 hon0 (hs 2 (by decide)) (hs 3 (by decide)) lx1 ly1 hon1 hfar hH
            injection (show [lookup 10 st'.mem] = [some (ptRow 16 18)] from hm) with hm
            exact ⟨_, rfl, _, out_on hv, (newAt_on hr hm (show 2 ≤ 10 by decide) hbe q4 q5 (xOf_lt _) (yOf_lt _) rfl).of_eq (on_eq hfar)⟩
  · rw [if_pos rfl]
    cases h1 with
    | far b0 o0 c0 hv0 hc0 hp0 =>
      subst hv0
      have lt0 : b0 < w.heap.size := World.block_lt_of_cell? w _ hp0
      cases h2 with
      | far b1 o1 c1 hv1 hc1 hp1 =>
        subst hv1
        have lt1 : b1 < w.heap.size := World.block_lt_of_cell? w _ hp1
        have hfar : padd (.far : Pt pp) .far = .far := rfl
        refine calls_briefR (F := fix39cffF) (tabX_ok pointPrims_ok xm4_ok) run39cffF Try.func39 Try.ntmps39 rfl (by decide +kernel) (by decide +kernel) (by decide +kernel) (show 3 ≤ 42 by decide) (show 3 < 4095 by decide) (fun _ => 0) (fun r => if r = 0 then (b0, o0) else (b1, o1))
          (vals := [.int .i64 2, _, _]) (fun s hs => ⟨rfl, ⟨c0, hc0, rfl, show 0 < 2 by decide⟩, ⟨c1, hc1, rfl, show 1 < 2 by decide⟩, trivial⟩) (fun s hs => ⟨show 0 < 2 by decide, ⟨⟨_, hp0, rfl⟩, trivial⟩, show 1 < 2 by decide, ⟨⟨_, hp1, rfl⟩, trivial⟩, trivial⟩) (fun r l hl hr => by cases hr) (fun r _ => (by show (if r = 0 then (b0, o0) else (b1, o1)).1 < _; split; exact lt0; exact lt1)) (fun r q _ _ h => by cases h) ?_ ?_
        · intro s hs hH i bb hb
          obtain ⟨q0, q1⟩ := law39cffF hfar hH
          have := findT_mem (show findT i dec39cffF = some bb from hb)
          simp only [dec39cffF, List.mem_cons, List.not_mem_nil, or_false, Prod.mk.injEq] at this
          rcases this with ⟨rfl, rfl⟩ | ⟨rfl, rfl⟩ <;> assumption
        · intro s hs hH st' β' a' w' v hv hm hag hr hbe
          obtain ⟨q0, q1⟩ := law39cffF hfar hH
          injection (show [lookup 22 st'.mem] = [some farRow] from hm) with hm
          exact ⟨_, rfl, _, out_far hv, (newAt_far hr (l := List.replicate 56 (.lit (.int .u8 0))) hm (show 2 ≤ 22 by decide) hbe rfl).of_eq hfar⟩
      | on b1 o1 c1 x1 y1 hv1 hc1 hp1 lx1 ly1 hon1 =>
        subst hv1
        have lt1 : b1 < w.heap.size := World.block_lt_of_cell? w _ (hp1 0 4 rfl)
        have hfar : padd (.far : Pt pp) .far = .far := rfl
        refine calls_briefR (F := fix39cfpF) (tabX_ok pointPrims_ok xm4_ok) run39cfpF Try.func39 Try.ntmps39 rfl (by decide +kernel) (by decide +kernel) (by decide +kernel) (show 3 ≤ 42 by decide) (show 3 < 4095 by decide) (fun i => if i = 0 then x1 else y1) (fun r => if r = 0 then (b0, o0) else (b1, o1))
          (vals := [.int .i64 2, _, _]) (fun s hs => ⟨rfl, ⟨c0, hc0, rfl, show 0 < 2 by decide⟩, ⟨c1, hc1, rfl, show 1 < 2 by decide⟩, trivial⟩) (fun s hs => ⟨show 0 < 2 by decide, ⟨⟨_, hp0, rfl⟩, trivial⟩, show 1 < 2 by decide, ptRow_row rfl hp1 (hs 0 (by decide)) (hs 1 (by decide)) lx1 ly1, trivial⟩) (fun r l hl hr => by cases hr) (fun r _ => (by show (if r = 0 then (b0, o0) else (b1, o1)).1 < _; split; exact lt0; exact lt1)) (fun r q _ _ h => by cases h) ?_ ?_
        · intro s hs hH i bb hb
          obtain ⟨q0, q1, q2⟩ := law39cfpF (hs 0 (by decide)) (hs 1 (by decide)) lx1 ly1 hon1 hfar hH
          have := findT_mem (show findT i dec39cfpF = some bb from hb)
          simp only [dec39cfpF, List.mem_cons, List.not_mem_nil, or_false, Prod.mk.injEq] at this
          rcases this with ⟨rfl, rfl⟩ | ⟨rfl, rfl⟩ | ⟨rfl, rfl⟩ <;> assumption
        · intro s hs hH st' β' a' w' v hv hm hag hr hbe
          obtain ⟨q0, q1, q2⟩ := law39cfpF (hs 0 (by decide)) (hs 1 (by decide)) lx1 ly1 hon1 hfar hH
          injection (show [lookup 16 st'.mem] = [some farRow] from hm) with hm
          exact ⟨_, rfl, _, out_far hv, (newAt_far hr (l := List.replicate 56 (.lit (.int .u8 0))) hm (show 2 ≤ 16 by decide) hbe rfl).of_eq hfar⟩
    | on b0 o0 c0 x0 y0 hv0 hc0 hp0 lx0 ly0 hon0 =>
      subst hv0
      have lt0 : b0 < w.heap.size := World.block_lt_of_cell? w _ (hp0 0 4 rfl)
      cases h2 with
      | far b1 o1 c1 hv1 hc1 hp1 =>
        subst hv1
        have lt1 : b1 < w.heap.size := World.block_lt_of_cell? w _ hp1
        have hfar := dbl_far ly0 hon0
        refine calls_briefR (F := fix39cpfN) (tabX_ok pointPrims_ok xm4_ok) run39cpfN Try.func39 Try.ntmps39 rfl (by decide +kernel) (by decide +kernel) (by decide +kernel) (show 3 ≤ 42 by decide) (show 3 < 4095 by decide) (fun i => if i = 0 then x0 else y0) (fun r => if r = 0 then (b0, o0) else (b1, o1))
          (vals := [.int .i64 2, _, _]) (fun s hs => ⟨rfl, ⟨c0, hc0, rfl, show 0 < 2 by decide⟩, ⟨c1, hc1, rfl, show 1 < 2 by decide⟩, trivial⟩) (fun s hs => ⟨show 0 < 2 by decide, ptRow_row rfl hp0 (hs 0 (by decide)) (hs 1 (by decide)) lx0 ly0, show 1 < 2 by decide, ⟨⟨_, hp1, rfl⟩, trivial⟩, trivial⟩) (fun r l hl hr => by cases hr) (fun r _ => (by show (if r = 0 then (b0, o0) else (b1, o1)).1 < _; split; exact lt0; exact lt1)) (fun r q _ _ h => by cases h) ?_ ?_
        · intro s hs hH i bb hb
          obtain ⟨q0, q1, q2, q3, q4⟩ := law39cpfN (hs 0 (by decide)) (hs 1 (by decide)) lx0 ly0 hon0 hfar hH
          have := findT_mem (show findT i dec39cpfN = some bb from hb)
          simp only [dec39cpfN, List.mem_cons, List.not_mem_nil, or_false, Prod.mk.injEq] at this
          rcases this with ⟨rfl, rfl⟩ | ⟨rfl, rfl⟩ | ⟨rfl, rfl⟩ <;> assumption
        · intro s hs hH st' β' a' w' v hv hm hag hr hbe
          obtain ⟨q0, q1, q2, q3, q4⟩ := law39cpfN (hs 0 (by decide)) (hs 1 (by decide)) lx0 ly0 hon0 hfar hH
          injection (show [lookup 16 st'.mem] = [some (ptRow 20 22)] from hm) with hm
          exact ⟨_, rfl, _, out_on hv, (newAt_on hr hm (show 2 ≤ 16 by decide) hbe q3 q4 (xOf_lt _) (yOf_lt _) rfl).of_eq (on_eq hfar)⟩
      | on b1 o1 c1 x1 y1 hv1 hc1 hp1 lx1 ly1 hon1 =>
        subst hv1
        have lt1 : b1 < w.heap.size := World.block_lt_of_cell? w _ (hp1 0 4 rfl)
        have hfar := dbl_far ly0 hon0
        refine calls_briefR (F := fix39cppN) (tabX_ok pointPrims_ok xm4_ok) run39cppN Try.func39 Try.ntmps39 rfl (by decide +kernel) (by decide +kernel) (by decide +kernel) (show 3 ≤ 42 by decide) (show 3 < 4095 by decide) (fun i => if i = 0 then x0 else if i = 1 then y0 else if i = 2 then x1 else y1) (fun r => if r = 0 then (b0, o0) else (b1, o1))
          (vals := [.int .i64 2, _, _]) (fun s hs => ⟨rfl, ⟨c0, hc0, rfl, show 0 < 2 by decide⟩, ⟨c1, hc1, rfl, show 1 < 2 by decide⟩, trivial⟩) (fun s hs => ⟨show 0 < 2 by decide, ptRow_row rfl hp0 (hs 0 (by decide)) (hs 1 (by decide)) lx0 ly0, show 1 < 2 by decide, ptRow_row rfl hp1 (hs 2 (by decide)) (hs 3 (by decide)) lx1 ly1, trivial⟩) (fun r l hl hr => by cases hr) (fun r _ => (by show (if r = 0 then (b0, o0) else (b1, o1)).1 < _; split; exact lt0; exact lt1)) (fun r q _ _ h => by cases h) ?_ ?_
        · intro s hs hH i bb hb
          obtain ⟨q0, q1, q2, q3, q4, q5⟩ := law39cppN (hs 0 (by decide)) (hs 1 (by decide)) lx0 ly0 hon0 (hs 2 (by decide)) (hs 3 (by decide)) lx1 ly1 hon1 hfar hH
          have := findT_mem (show findT i dec39cppN = some bb from hb)
          simp only [dec39cppN, List.mem_cons, List.not_mem_nil, or_false, Prod.mk.injEq] at this
          rcases this with ⟨rfl, rfl⟩ | ⟨rfl, rfl⟩ | ⟨rfl, rfl⟩ | ⟨rfl, rfl⟩ <;> assumption
        · intro s hs hH st' β' a' w' v hv hm hag hr hbe
          obtain ⟨q0, q1, q2, q3, q4, q5⟩ := law39cppN (hs 0 (by decide)) (hs 1 (by decide)) lx0 ly0 hon0 (hs 2 (by decide)) (hs 3 (by decide)) lx1 ly1 hon1 hfar hH
          injection (show [lookup 10 st'.mem] = [some (ptRow 16 18)] from hm) with hm
          exact ⟨_, rfl, _, out_on hv, (newAt_on hr hm (show 2 ≤ 10 by decide) hbe q4 q5 (xOf_lt _) (yOf_lt _) rfl).of_eq (on_eq hfar)⟩
end P224
