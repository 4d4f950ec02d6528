/- Law Generator. PRINTED BY A PROGRAM OF MY OWN (gen/mkL18.py). -/
import Derived.Test.YtccmmkgiamcgeaaGZC
set_option linter.all false
namespace P224
open Go Go.RowKit Go.Proofs
set_option maxRecDepth 100000
set_option linter.unusedVariables false
def ex18f : List Ex := [
.op 19 [.c 0, .c 0],
.op 25 [(.v 1), (.v 2), (.v 58)],
.op 2 [(.v 54)],
.op 20 [(.v 1), (.v 2)],
.op 4 [(.v 2), (.c pq)],
.op 4 [(.v 1), (.c pq)],
.op 28 [(.v 0), (.c 4)],
.op 19 [.c 0, .c 0],
.feq (.v 51) (.c 1),
.feq (.v 50) (.c 0),
.fcst 0,
.fcst 1,
.fcst 0,
.fcst 0,
.op 19 ((Wd.c 4 :: (bs28 41 ++ bs28 43)) ++ (Wd.c 4 :: (bs28 1 ++ bs28 2))),
.op 4 [(.v 2), (.c pq)],
.op 4 [(.v 1), (.c pq)],
.fmul (.v 33) (.v 39),
.fcst 0,
.fmul (.v 31) (.v 39),
.fcst 0,
.finv (.v 35),
.fcst 0,
.feq (.v 36) (.c 1),
.feq (.v 35) (.c 0),
.fcst 1,
.op 4 [(.v 33), (.c pq)],
.op 2 (gyB.map .c),
.op 4 [(.v 31), (.c pq)],
.op 2 (gxB.map .c),
.fcst 0,
.fcst 1,
.fcst 0,
.fcst 0,
.op 25 [(.v 21), (.v 23), (.v 25)],
.op 2 (((List.range 27).map fun k => .b 3 (27 - k)) ++ [.v 6]),
.op 20 [(.v 21), (.v 23)],
.fmul (.v 13) (.v 19),
.fcst 0,
.fmul (.v 11) (.v 19),
.fcst 0,
.finv (.v 15),
.fcst 0,
.feq (.v 16) (.c 1),
.feq (.v 15) (.c 0),
.fcst 1,
.op 4 [(.v 13), (.c pq)],
.op 2 (gyB.map .c),
.op 4 [(.v 11), (.c pq)],
.op 2 (gxB.map .c),
.fcst 0,
.fcst 1,
.fcst 0,
.fcst 0,
.add 8 (.b 3 0) (.v 5),
.op 28 [(.v 0), (.c 4)],
.op 4 [(.v 3), (.c pq)],
.fcst nn,
.fcst gyN,
.fcst gxN]
def dec18f : List (Nat × Bool) := [(4, true), (12, true), (14, true), (16, false), (17, false), (24, true), (26, true), (32, true), (34, true), (36, false), (37, false), (44, true), (45, true), (46, true), (51, true), (52, true), (53, true), (55, true), (56, true), (57, true), (59, true)]
def st18f : St := startSt [.one (.num .u8 0)] [] 1 0
def br18f : BriefR := ⟨.ret, 61, ex18f, [], [.one (.bl 60)], []⟩
theorem run18f : briefR (tabG xg1) Try.f18 [] (runF (tabG xg1) (fixG 61 0 dec18f []) 3000 Try.f18 st18f) = some br18f := by kernel_rfl
theorem law18f {s : Nums}  {k R : Nat} (lR : R < 4) (hR : k % 4 = R) (f1 : farOf (mulN gxN gyN (nn + R)) = 1) (f2 : farOf (mulN gxN gyN R) = 1) (q0 : s 0 = k) (h : Holds s 61 ex18f) : s 4 = 1 ∧ s 12 = 1 ∧ s 14 = 1 ∧ s 16 = 0 ∧ s 17 = 0 ∧ s 24 = 1 ∧ s 26 = 1 ∧ s 32 = 1 ∧ s 34 = 1 ∧ s 36 = 0 ∧ s 37 = 0 ∧ s 44 = 1 ∧ s 45 = 1 ∧ s 46 = 1 ∧ s 51 = 1 ∧ s 52 = 1 ∧ s 53 = 1 ∧ s 55 = 1 ∧ s 56 = 1 ∧ s 57 = 1 ∧ s 59 = 1 ∧ s 60 = 1 := by
  obtain ⟨h60, h59, h58, h57, h56, h55, h54, h53, h52, h51, h50, h49, h48, h47, h46, h45, h44, h43, h42, h41, h40, h39, h38, h37, h36, h35, h34, h33, h32, h31, h30, h29, h28, h27, h26, h25, h24, h23, h22, h21, h20, h19, h18, h17, h16, h15, h14, h13, h12, h11, h10, h9, h8, h7, h6, h5, h4, h3, h2, h1, _⟩ := h
  have q1 : s 1 = gxN := (show s 1 = gxN % pq from h1).trans gx_mod
  have q2 : s 2 = gyN := (show s 2 = gyN % pq from h2).trans gy_mod
  have q3 : s 3 = nn := (show s 3 = nn % pq from h3).trans nn_modp
  have q4 : s 4 = 1 := (show s 4 = if s 3 < pq then 1 else 0 from h4).trans (if_pos (by rw [q3]; exact nn_lt_pq))
  have q5 : s 5 = R := (show s 5 = s 0 % 4 from h5).trans (by rw [q0]; exact hR)
  have q6 : s 6 = 61 + R := (show s 6 = (by8 0 (s 3) + s 5) % 2 ^ 8 from h6).trans (by rw [q3, q5]; exact nn_plus lR)
  have q7 : s 7 = 0 := (show s 7 = 0 % pq from h7).trans (Nat.zero_mod _)
  have q8 : s 8 = 0 := (show s 8 = 0 % pq from h8).trans (Nat.zero_mod _)
  have q9 : s 9 = 1 := (show s 9 = 1 % pq from h9).trans mod_one_pq
  have q10 : s 10 = 0 := (show s 10 = 0 % pq from h10).trans (Nat.zero_mod _)
  have q11 : s 11 = gxN := (show s 11 = ofBytes gxB from h11).trans gxB_val
  have q12 : s 12 = 1 := (show s 12 = if s 11 < pq then 1 else 0 from h12).trans (if_pos (by rw [q11]; exact gx_lt))
  have q13 : s 13 = gyN := (show s 13 = ofBytes gyB from h13).trans gyB_val
  have q14 : s 14 = 1 := (show s 14 = if s 13 < pq then 1 else 0 from h14).trans (if_pos (by rw [q13]; exact gy_lt))
  have q15 : s 15 = 1 := (show s 15 = 1 % pq from h15).trans mod_one_pq
  have q16 : s 16 = 0 := (show s 16 = if s 15 = 0 then 1 else 0 from h16).trans (if_neg (by rw [q15]; decide))
  have q17 : s 17 = 0 := (show s 17 = if s 16 = 1 then 1 else 0 from h17).trans (if_neg (by rw [q16]; decide))
  have q18 : s 18 = 0 := (show s 18 = 0 % pq from h18).trans (Nat.zero_mod _)
  have q19 : s 19 = 1 := (show s 19 = finvq (s 15) from h19).trans (by rw [q15]; exact finv1)
  have q20 : s 20 = 0 := (show s 20 = 0 % pq from h20).trans (Nat.zero_mod _)
  have q21 : s 21 = gxN := (show s 21 = s 11 * s 19 % pq from h21).trans (by rw [q11, q19]; exact gx_mul1)
  have q22 : s 22 = 0 := (show s 22 = 0 % pq from h22).trans (Nat.zero_mod _)
  have q23 : s 23 = gyN := (show s 23 = s 13 * s 19 % pq from h23).trans (by rw [q13, q19]; exact gy_mul1)
  have q24 : s 24 = 1 := ((show s 24 = onN (s 21) (s 23) from h24).trans (by rw [q21, q23])).trans gg_onN
  have q25 : s 25 = nn + R := (show s 25 = ofBytes (((List.range 27).map fun k => by8 (27 - k) (s 3)) ++ [s 6]) from h25).trans (by rw [q3, q6]; exact nn_plus2 lR)
  have q26 : s 26 = 1 := ((show s 26 = farOf (mulN (s 21) (s 23) (s 25)) from h26).trans (by rw [q21, q23, q25])).trans f1
  have q27 : s 27 = 0 := (show s 27 = 0 % pq from h27).trans (Nat.zero_mod _)
  have q28 : s 28 = 0 := (show s 28 = 0 % pq from h28).trans (Nat.zero_mod _)
  have q29 : s 29 = 1 := (show s 29 = 1 % pq from h29).trans mod_one_pq
  have q30 : s 30 = 0 := (show s 30 = 0 % pq from h30).trans (Nat.zero_mod _)
  have q31 : s 31 = gxN := (show s 31 = ofBytes gxB from h31).trans gxB_val
  have q32 : s 32 = 1 := (show s 32 = if s 31 < pq then 1 else 0 from h32).trans (if_pos (by rw [q31]; exact gx_lt))
  have q33 : s 33 = gyN := (show s 33 = ofBytes gyB from h33).trans gyB_val
  have q34 : s 34 = 1 := (show s 34 = if s 33 < pq then 1 else 0 from h34).trans (if_pos (by rw [q33]; exact gy_lt))
  have q35 : s 35 = 1 := (show s 35 = 1 % pq from h35).trans mod_one_pq
  have q36 : s 36 = 0 := (show s 36 = if s 35 = 0 then 1 else 0 from h36).trans (if_neg (by rw [q35]; decide))
  have q37 : s 37 = 0 := (show s 37 = if s 36 = 1 then 1 else 0 from h37).trans (if_neg (by rw [q36]; decide))
  have q38 : s 38 = 0 := (show s 38 = 0 % pq from h38).trans (Nat.zero_mod _)
  have q39 : s 39 = 1 := (show s 39 = finvq (s 35) from h39).trans (by rw [q35]; exact finv1)
  have q40 : s 40 = 0 := (show s 40 = 0 % pq from h40).trans (Nat.zero_mod _)
  have q41 : s 41 = gxN := (show s 41 = s 31 * s 39 % pq from h41).trans (by rw [q31, q39]; exact gx_mul1)
  have q42 : s 42 = 0 := (show s 42 = 0 % pq from h42).trans (Nat.zero_mod _)
  have q43 : s 43 = gyN := (show s 43 = s 33 * s 39 % pq from h43).trans (by rw [q33, q39]; exact gy_mul1)
  have q44 : s 44 = 1 := (show s 44 = if s 1 < pq then 1 else 0 from h44).trans (if_pos (by rw [q1]; exact gx_lt))
  have q45 : s 45 = 1 := (show s 45 = if s 2 < pq then 1 else 0 from h45).trans (if_pos (by rw [q2]; exact gy_lt))
  have q46 : s 46 = 1 := same_ptG h46 (by rw [q41, q1]) (by rw [q43, q2])
  have q47 : s 47 = 0 := (show s 47 = 0 % pq from h47).trans (Nat.zero_mod _)
  have q48 : s 48 = 0 := (show s 48 = 0 % pq from h48).trans (Nat.zero_mod _)
  have q49 : s 49 = 1 := (show s 49 = 1 % pq from h49).trans mod_one_pq
  have q50 : s 50 = 0 := (show s 50 = 0 % pq from h50).trans (Nat.zero_mod _)
  have q51 : s 51 = 1 := (show s 51 = if s 50 = 0 then 1 else 0 from h51).trans (if_pos (by rw [q50]))
  have q52 : s 52 = 1 := (show s 52 = if s 51 = 1 then 1 else 0 from h52).trans (if_pos (by rw [q51]))
  have q53 : s 53 = 1 := (show s 53 = opVal 19 ([0] ++ [0]) from h53).trans (opVal_19 [0] [0] rfl)
  have q54 : s 54 = R := (show s 54 = s 0 % 4 from h54).trans (by rw [q0]; exact hR)
  have q55 : s 55 = 1 := (show s 55 = if s 1 < pq then 1 else 0 from h55).trans (if_pos (by rw [q1]; exact gx_lt))
  have q56 : s 56 = 1 := (show s 56 = if s 2 < pq then 1 else 0 from h56).trans (if_pos (by rw [q2]; exact gy_lt))
  have q57 : s 57 = 1 := ((show s 57 = onN (s 1) (s 2) from h57).trans (by rw [q1, q2])).trans gg_onN
  have q58 : s 58 = R := (show s 58 = ofBytes [s 54] from h58).trans (by rw [one_byte]; exact q54)
  have q59 : s 59 = 1 := ((show s 59 = farOf (mulN (s 1) (s 2) (s 58)) from h59).trans (by rw [q1, q2, q58])).trans f2
  have q60 : s 60 = 1 := (show s 60 = opVal 19 ([0] ++ [0]) from h60).trans (opVal_19 [0] [0] rfl)
  exact ⟨q4, q12, q14, q16, q17, q24, q26, q32, q34, q36, q37, q44, q45, q46, q51, q52, q53, q55, q56, q57, q59, q60⟩
def ex18n : List Ex := [
.op 19 ((Wd.c 4 :: (bs28 27 ++ bs28 28)) ++ (Wd.c 4 :: (bs28 62 ++ bs28 63))),
.op 4 [(.v 63), (.c pq)],
.op 4 [(.v 62), (.c pq)],
.op 27 [(.v 1), (.v 2), (.v 60)],
.op 26 [(.v 1), (.v 2), (.v 60)],
.op 25 [(.v 1), (.v 2), (.v 60)],
.op 2 [(.v 56)],
.op 20 [(.v 1), (.v 2)],
.op 4 [(.v 2), (.c pq)],
.op 4 [(.v 1), (.c pq)],
.op 28 [(.v 0), (.c 4)],
.op 19 [.c 0, .c 0],
.feq (.v 53) (.c 1),
.feq (.v 52) (.c 0),
.fcst 0,
.fcst 1,
.fcst 0,
.fcst 0,
.op 19 ((Wd.c 4 :: (bs28 43 ++ bs28 45)) ++ (Wd.c 4 :: (bs28 1 ++ bs28 2))),
.op 4 [(.v 2), (.c pq)],
.op 4 [(.v 1), (.c pq)],
.fmul (.v 35) (.v 41),
.fcst 0,
.fmul (.v 33) (.v 41),
.fcst 0,
.finv (.v 37),
.fcst 0,
.feq (.v 38) (.c 1),
.feq (.v 37) (.c 0),
.fcst 1,
.op 4 [(.v 35), (.c pq)],
.op 2 (gyB.map .c),
.op 4 [(.v 33), (.c pq)],
.op 2 (gxB.map .c),
.fcst 0,
.fcst 1,
.fcst 0,
.fcst 0,
.op 27 [(.v 21), (.v 23), (.v 25)],
.op 26 [(.v 21), (.v 23), (.v 25)],
.op 25 [(.v 21), (.v 23), (.v 25)],
.op 2 (((List.range 27).map fun k => .b 3 (27 - k)) ++ [.v 6]),
.op 20 [(.v 21), (.v 23)],
.fmul (.v 13) (.v 19),
.fcst 0,
.fmul (.v 11) (.v 19),
.fcst 0,
.finv (.v 15),
.fcst 0,
.feq (.v 16) (.c 1),
.feq (.v 15) (.c 0),
.fcst 1,
.op 4 [(.v 13), (.c pq)],
.op 2 (gyB.map .c),
.op 4 [(.v 11), (.c pq)],
.op 2 (gxB.map .c),
.fcst 0,
.fcst 1,
.fcst 0,
.fcst 0,
.add 8 (.b 3 0) (.v 5),
.op 28 [(.v 0), (.c 4)],
.op 4 [(.v 3), (.c pq)],
.fcst nn,
.fcst gyN,
.fcst gxN]
def dec18n : List (Nat × Bool) := [(4, true), (12, true), (14, true), (16, false), (17, false), (24, true), (26, false), (34, true), (36, true), (38, false), (39, false), (46, true), (47, true), (48, true), (53, true), (54, true), (55, true), (57, true), (58, true), (59, true), (61, false), (64, true), (65, true)]
def st18n : St := startSt [.one (.num .u8 0)] [] 1 0
def br18n : BriefR := ⟨.ret, 67, ex18n, [], [.one (.bl 66)], []⟩
theorem run18n : briefR (tabG xg1) Try.f18 [] (runF (tabG xg1) (fixG 61 0 dec18n []) 3000 Try.f18 st18n) = some br18n := by kernel_rfl
theorem law18n {s : Nums}  {k R : Nat} (lR : R < 4) (hR : k % 4 = R) {X1 Y1 : Nat} (lX1 : X1 < pq) (lY1 : Y1 < pq) (on1 : onN X1 Y1 = 1) (f1 : farOf (mulN gxN gyN (nn + R)) = 0) (gx1 : xOf (mulN gxN gyN (nn + R)) = X1) (gy1 : yOf (mulN gxN gyN (nn + R)) = Y1) (f2 : farOf (mulN gxN gyN R) = 0) (gx2 : xOf (mulN gxN gyN R) = X1) (gy2 : yOf (mulN gxN gyN R) = Y1) (q0 : s 0 = k) (h : Holds s 67 ex18n) : s 4 = 1 ∧ s 12 = 1 ∧ s 14 = 1 ∧ s 16 = 0 ∧ s 17 = 0 ∧ s 24 = 1 ∧ s 26 = 0 ∧ s 34 = 1 ∧ s 36 = 1 ∧ s 38 = 0 ∧ s 39 = 0 ∧ s 46 = 1 ∧ s 47 = 1 ∧ s 48 = 1 ∧ s 53 = 1 ∧ s 54 = 1 ∧ s 55 = 1 ∧ s 57 = 1 ∧ s 58 = 1 ∧ s 59 = 1 ∧ s 61 = 0 ∧ s 64 = 1 ∧ s 65 = 1 ∧ s 66 = 1 := by
  obtain ⟨h66, h65, h64, h63, h62, h61, h60, h59, h58, h57, h56, h55, h54, h53, h52, h51, h50, h49, h48, h47, h46, h45, h44, h43, h42, h41, h40, h39, h38, h37, h36, h35, h34, h33, h32, h31, h30, h29, h28, h27, h26, h25, h24, h23, h22, h21, h20, h19, h18, h17, h16, h15, h14, h13, h12, h11, h10, h9, h8, h7, h6, h5, h4, h3, h2, h1, _⟩ := h
  have q1 : s 1 = gxN := (show s 1 = gxN % pq from h1).trans gx_mod
  have q2 : s 2 = gyN := (show s 2 = gyN % pq from h2).trans gy_mod
  have q3 : s 3 = nn := (show s 3 = nn % pq from h3).trans nn_modp
  have q4 : s 4 = 1 := (show s 4 = if s 3 < pq then 1 else 0 from h4).trans (if_pos (by rw [q3]; exact nn_lt_pq))
  have q5 : s 5 = R := (show s 5 = s 0 % 4 from h5).trans (by rw [q0]; exact hR)
  have q6 : s 6 = 61 + R := (show s 6 = (by8 0 (s 3) + s 5) % 2 ^ 8 from h6).trans (by rw [q3, q5]; exact nn_plus lR)
  have q7 : s 7 = 0 := (show s 7 = 0 % pq from h7).trans (Nat.zero_mod _)
  have q8 : s 8 = 0 := (show s 8 = 0 % pq from h8).trans (Nat.zero_mod _)
  have q9 : s 9 = 1 := (show s 9 = 1 % pq from h9).trans mod_one_pq
  have q10 : s 10 = 0 := (show s 10 = 0 % pq from h10).trans (Nat.zero_mod _)
  have q11 : s 11 = gxN := (show s 11 = ofBytes gxB from h11).trans gxB_val
  have q12 : s 12 = 1 := (show s 12 = if s 11 < pq then 1 else 0 from h12).trans (if_pos (by rw [q11]; exact gx_lt))
  have q13 : s 13 = gyN := (show s 13 = ofBytes gyB from h13).trans gyB_val
  have q14 : s 14 = 1 := (show s 14 = if s 13 < pq then 1 else 0 from h14).trans (if_pos (by rw [q13]; exact gy_lt))
  have q15 : s 15 = 1 := (show s 15 = 1 % pq from h15).trans mod_one_pq
  have q16 : s 16 = 0 := (show s 16 = if s 15 = 0 then 1 else 0 from h16).trans (if_neg (by rw [q15]; decide))
  have q17 : s 17 = 0 := (show s 17 = if s 16 = 1 then 1 else 0 from h17).trans (if_neg (by rw [q16]; decide))
  have q18 : s 18 = 0 := (show s 18 = 0 % pq from h18).trans (Nat.zero_mod _)
  have q19 : s 19 = 1 := (show s 19 = finvq (s 15) from h19).trans (by rw [q15]; exact finv1)
  have q20 : s 20 = 0 := (show s 20 = 0 % pq from h20).trans (Nat.zero_mod _)
  have q21 : s 21 = gxN := (show s 21 = s 11 * s 19 % pq from h21).trans (by rw [q11, q19]; exact gx_mul1)
  have q22 : s 22 = 0 := (show s 22 = 0 % pq from h22).trans (Nat.zero_mod _)
  have q23 : s 23 = gyN := (show s 23 = s 13 * s 19 % pq from h23).trans (by rw [q13, q19]; exact gy_mul1)
  have q24 : s 24 = 1 := ((show s 24 = onN (s 21) (s 23) from h24).trans (by rw [q21, q23])).trans gg_onN
  have q25 : s 25 = nn + R := (show s 25 = ofBytes (((List.range 27).map fun k => by8 (27 - k) (s 3)) ++ [s 6]) from h25).trans (by rw [q3, q6]; exact nn_plus2 lR)
  have q26 : s 26 = 0 := ((show s 26 = farOf (mulN (s 21) (s 23) (s 25)) from h26).trans (by rw [q21, q23, q25])).trans f1
  have q27 : s 27 = X1 := ((show s 27 = xOf (mulN (s 21) (s 23) (s 25)) from h27).trans (by rw [q21, q23, q25])).trans gx1
  have q28 : s 28 = Y1 := ((show s 28 = yOf (mulN (s 21) (s 23) (s 25)) from h28).trans (by rw [q21, q23, q25])).trans gy1
  have q29 : s 29 = 0 := (show s 29 = 0 % pq from h29).trans (Nat.zero_mod _)
  have q30 : s 30 = 0 := (show s 30 = 0 % pq from h30).trans (Nat.zero_mod _)
  have q31 : s 31 = 1 := (show s 31 = 1 % pq from h31).trans mod_one_pq
  have q32 : s 32 = 0 := (show s 32 = 0 % pq from h32).trans (Nat.zero_mod _)
  have q33 : s 33 = gxN := (show s 33 = ofBytes gxB from h33).trans gxB_val
  have q34 : s 34 = 1 := (show s 34 = if s 33 < pq then 1 else 0 from h34).trans (if_pos (by rw [q33]; exact gx_lt))
  have q35 : s 35 = gyN := (show s 35 = ofBytes gyB from h35).trans gyB_val
  have q36 : s 36 = 1 := (show s 36 = if s 35 < pq then 1 else 0 from h36).trans (if_pos (by rw [q35]; exact gy_lt))
  have q37 : s 37 = 1 := (show s 37 = 1 % pq from h37).trans mod_one_pq
  have q38 : s 38 = 0 := (show s 38 = if s 37 = 0 then 1 else 0 from h38).trans (if_neg (by rw [q37]; decide))
  have q39 : s 39 = 0 := (show s 39 = if s 38 = 1 then 1 else 0 from h39).trans (if_neg (by rw [q38]; decide))
  have q40 : s 40 = 0 := (show s 40 = 0 % pq from h40).trans (Nat.zero_mod _)
  have q41 : s 41 = 1 := (show s 41 = finvq (s 37) from h41).trans (by rw [q37]; exact finv1)
  have q42 : s 42 = 0 := (show s 42 = 0 % pq from h42).trans (Nat.zero_mod _)
  have q43 : s 43 = gxN := (show s 43 = s 33 * s 41 % pq from h43).trans (by rw [q33, q41]; exact gx_mul1)
  have q44 : s 44 = 0 := (show s 44 = 0 % pq from h44).trans (Nat.zero_mod _)
  have q45 : s 45 = gyN := (show s 45 = s 35 * s 41 % pq from h45).trans (by rw [q35, q41]; exact gy_mul1)
  have q46 : s 46 = 1 := (show s 46 = if s 1 < pq then 1 else 0 from h46).trans (if_pos (by rw [q1]; exact gx_lt))
  have q47 : s 47 = 1 := (show s 47 = if s 2 < pq then 1 else 0 from h47).trans (if_pos (by rw [q2]; exact gy_lt))
  have q48 : s 48 = 1 := same_ptG h48 (by rw [q43, q1]) (by rw [q45, q2])
  have q49 : s 49 = 0 := (show s 49 = 0 % pq from h49).trans (Nat.zero_mod _)
  have q50 : s 50 = 0 := (show s 50 = 0 % pq from h50).trans (Nat.zero_mod _)
  have q51 : s 51 = 1 := (show s 51 = 1 % pq from h51).trans mod_one_pq
  have q52 : s 52 = 0 := (show s 52 = 0 % pq from h52).trans (Nat.zero_mod _)
  have q53 : s 53 = 1 := (show s 53 = if s 52 = 0 then 1 else 0 from h53).trans (if_pos (by rw [q52]))
  have q54 : s 54 = 1 := (show s 54 = if s 53 = 1 then 1 else 0 from h54).trans (if_pos (by rw [q53]))
  have q55 : s 55 = 1 := (show s 55 = opVal 19 ([0] ++ [0]) from h55).trans (opVal_19 [0] [0] rfl)
  have q56 : s 56 = R := (show s 56 = s 0 % 4 from h56).trans (by rw [q0]; exact hR)
  have q57 : s 57 = 1 := (show s 57 = if s 1 < pq then 1 else 0 from h57).trans (if_pos (by rw [q1]; exact gx_lt))
  have q58 : s 58 = 1 := (show s 58 = if s 2 < pq then 1 else 0 from h58).trans (if_pos (by rw [q2]; exact gy_lt))
  have q59 : s 59 = 1 := ((show s 59 = onN (s 1) (s 2) from h59).trans (by rw [q1, q2])).trans gg_onN
  have q60 : s 60 = R := (show s 60 = ofBytes [s 56] from h60).trans (by rw [one_byte]; exact q56)
  have q61 : s 61 = 0 := ((show s 61 = farOf (mulN (s 1) (s 2) (s 60)) from h61).trans (by rw [q1, q2, q60])).trans f2
  have q62 : s 62 = X1 := ((show s 62 = xOf (mulN (s 1) (s 2) (s 60)) from h62).trans (by rw [q1, q2, q60])).trans gx2
  have q63 : s 63 = Y1 := ((show s 63 = yOf (mulN (s 1) (s 2) (s 60)) from h63).trans (by rw [q1, q2, q60])).trans gy2
  have q64 : s 64 = 1 := (show s 64 = if s 62 < pq then 1 else 0 from h64).trans (if_pos (by rw [q62]; exact lX1))
  have q65 : s 65 = 1 := (show s 65 = if s 63 < pq then 1 else 0 from h65).trans (if_pos (by rw [q63]; exact lY1))
  have q66 : s 66 = 1 := same_ptG h66 (by rw [q27, q62]) (by rw [q28, q63])
  exact ⟨q4, q12, q14, q16, q17, q24, q26, q34, q36, q38, q39, q46, q47, q48, q53, q54, q55, q57, q58, q59, q61, q64, q65, q66⟩
theorem law18_all {w : World} {k : Nat} (hk : k < 256) : Calls Try.prog 18 ([.int .u8 (k : Int)] : List Value).toArray w fun e w' => e = .returned (.bool true) ∧ Below w.heap.size w w' := by
  obtain ⟨R, hR, lR⟩ : ∃ R, k % 4 = R ∧ R < 4 := ⟨_, rfl, Nat.mod_lt _ (by decide)⟩
  have e := beyond R
  rcases mul_casesG gg_onN R with ⟨f2, e2⟩ | ⟨X1, Y1, f2, gx2, gy2, lX1, lY1, on1, e2⟩
  · have f1 : farOf (mulN gxN gyN (nn + R)) = 1 := is_farG (e.trans e2)
    refine calls_briefR (F := fixG 61 0 dec18f []) (tabG_ok xg1_ok) run18f Try.func18 Try.ntmps18 rfl (by decide +kernel) (by decide +kernel) (by decide +kernel) (show 1 ≤ 61 by decide) (show 1 < 4095 by decide) (fun _ => k) (fun _ => (0, 0))
      (vals := [.int .u8 (k : Int)]) (fun s hs => ⟨⟨by rw [hs 0 (by decide)], by rw [hs 0 (by decide)]; exact hk⟩, trivial⟩) (fun s hs => trivial) (fun r l hl hr => by cases hr) (fun r h => absurd h (Nat.not_lt_zero r)) (fun r q _ _ h => by cases h) ?_ ?_
    · intro s hs hH i bb hb
      obtain ⟨q4, q12, q14, q16, q17, q24, q26, q32, q34, q36, q37, q44, q45, q46, q51, q52, q53, q55, q56, q57, q59, q60⟩ := law18f (k := k) (R := R) lR hR f1 f2 (hs 0 (by decide)) hH
      have := findT_mem (show findT i dec18f = some bb from hb)
      simp only [dec18f, List.mem_cons, List.not_mem_nil, or_false, Prod.mk.injEq] at this
      rcases this with ⟨rfl, rfl⟩ | ⟨rfl, rfl⟩ | ⟨rfl, rfl⟩ | ⟨rfl, rfl⟩ | ⟨rfl, rfl⟩ | ⟨rfl, rfl⟩ | ⟨rfl, rfl⟩ | ⟨rfl, rfl⟩ | ⟨rfl, rfl⟩ | ⟨rfl, rfl⟩ | ⟨rfl, rfl⟩ | ⟨rfl, rfl⟩ | ⟨rfl, rfl⟩ | ⟨rfl, rfl⟩ | ⟨rfl, rfl⟩ | ⟨rfl, rfl⟩ | ⟨rfl, rfl⟩ | ⟨rfl, rfl⟩ | ⟨rfl, rfl⟩ | ⟨rfl, rfl⟩ | ⟨rfl, rfl⟩ <;> assumption
    · intro s hs hH st' β' a' w' v hv hm hag hr hbe
      obtain ⟨q4, q12, q14, q16, q17, q24, q26, q32, q34, q36, q37, q44, q45, q46, q51, q52, q53, q55, q56, q57, q59, q60⟩ := law18f (k := k) (R := R) lR hR f1 f2 (hs 0 (by decide)) hH
      have hv' : v = .bool (s 60 == 1) := hv.1
      refine ⟨?_, hbe⟩
      rw [hv', q60]
      rfl
  · obtain ⟨f1, gx1, gy1⟩ := is_ptG (e.trans e2) lX1 lY1
    refine calls_briefR (F := fixG 61 0 dec18n []) (tabG_ok xg1_ok) run18n Try.func18 Try.ntmps18 rfl (by decide +kernel) (by decide +kernel) (by decide +kernel) (show 1 ≤ 61 by decide) (show 1 < 4095 by decide) (fun _ => k) (fun _ => (0, 0))
      (vals := [.int .u8 (k : Int)]) (fun s hs => ⟨⟨by rw [hs 0 (by decide)], by rw [hs 0 (by decide)]; exact hk⟩, trivial⟩) (fun s hs => trivial) (fun r l hl hr => by cases hr) (fun r h => absurd h (Nat.not_lt_zero r)) (fun r q _ _ h => by cases h) ?_ ?_
    · intro s hs hH i bb hb
      obtain ⟨q4, q12, q14, q16, q17, q24, q26, q34, q36, q38, q39, q46, q47, q48, q53, q54, q55, q57, q58, q59, q61, q64, q65, q66⟩ := law18n (k := k) (R := R) lR hR lX1 lY1 on1 f1 gx1 gy1 f2 gx2 gy2 (hs 0 (by decide)) hH
      have := findT_mem (show findT i dec18n = some bb from hb)
      simp only [dec18n, List.mem_cons, List.not_mem_nil, or_false, Prod.mk.injEq] at this
      rcases this with ⟨rfl, rfl⟩ | ⟨rfl, rfl⟩ | ⟨rfl, rfl⟩ | ⟨rfl, rfl⟩ | ⟨rfl, rfl⟩ | ⟨rfl, rfl⟩ | ⟨rfl, rfl⟩ | ⟨rfl, rfl⟩ | ⟨rfl, rfl⟩ | ⟨rfl, rfl⟩ | ⟨rfl, rfl⟩ | ⟨rfl, rfl⟩ | ⟨rfl, rfl⟩ | ⟨rfl, rfl⟩ | ⟨rfl, rfl⟩ | ⟨rfl, rfl⟩ | ⟨rfl, rfl⟩ | ⟨rfl, rfl⟩ | ⟨rfl, rfl⟩ | ⟨rfl, rfl⟩ | ⟨rfl, rfl⟩ | ⟨rfl, rfl⟩ | ⟨rfl, rfl⟩ <;> assumption
    · intro s hs hH st' β' a' w' v hv hm hag hr hbe
      obtain ⟨q4, q12, q14, q16, q17, q24, q26, q34, q36, q38, q39, q46, q47, q48, q53, q54, q55, q57, q58, q59, q61, q64, q65, q66⟩ := law18n (k := k) (R := R) lR hR lX1 lY1 on1 f1 gx1 gy1 f2 gx2 gy2 (hs 0 (by decide)) hH
      have hv' : v = .bool (s 66 == 1) := hv.1
      refine ⟨?_, hbe⟩
      rw [hv', q66]
      rfl
end P224
