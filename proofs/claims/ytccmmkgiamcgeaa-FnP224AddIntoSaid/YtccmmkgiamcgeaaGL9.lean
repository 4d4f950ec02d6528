/- Law AddInto. PRINTED BY A PROGRAM OF MY OWN (gen/mkL9.py). -/
import Derived.Test.YtccmmkgiamcgeaaGR12
set_option linter.all false
namespace P224
open Go Go.RowKit Go.Proofs
set_option maxRecDepth 100000
set_option linter.unusedVariables false
theorem run9b1 : briefR (tabQ xu1) Try.f9 [] (runF (tabQ xu1) (fixN 66 2 [(9, true)] npSy2) 3000 Try.f9 stSyB) = some ⟨.ret, 10, [lenE 0], [], [.one (.lit (.bool true))], []⟩ := by kernel_rfl
theorem run9b2 : briefR (tabQ xu1) Try.f9 [] (runF (tabQ xu1) (fixN 66 2 [(9, false), (10, true)] npSy2) 3000 Try.f9 stSyB) = some ⟨.ret, 11, [lenE 4, lenE 0], [], [.one (.lit (.bool true))], []⟩ := by kernel_rfl
theorem run9b3 : briefR (tabQ xu1) Try.f9 [] (runF (tabQ xu1) (fixN 66 2 [(9, false), (10, false), (11, true)] npSy2) 3000 Try.f9 stSyB) = some ⟨.ret, 12, [.feq (.v 3) (.c 0), lenE 4, lenE 0], [], [.one (.lit (.bool true))], []⟩ := by kernel_rfl
theorem run9b4 : briefR (tabQ xu1) Try.f9 [] (runF (tabQ xu1) (fixN 66 2 [(9, false), (10, false), (11, false), (12, true)] npSy2) 3000 Try.f9 stSyB) = some ⟨.ret, 13, [.feq (.v 7) (.c 0), .feq (.v 3) (.c 0), lenE 4, lenE 0], [], [.one (.lit (.bool true))], []⟩ := by kernel_rfl
def ex9pp01 : List Ex := [
.op 19 [.c 0, .c 0],
.op 21 [(.v 0), (.v 1), (.v 2), (.v 3)],
.op 20 [(.v 2), (.v 3)],
.op 20 [(.v 0), (.v 1)],
.op 21 [(.v 0), (.v 1), (.v 2), (.v 3)],
.op 20 [(.v 2), (.v 3)],
.op 20 [(.v 0), (.v 1)],
.feq (.v 9) (.c 1),
.feq (.v 9) (.c 0),
.op 28 [(.v 4), (.c 3)],
.feq (.v 6) (.c 0),
.feq (.v 5) (.c 0),
.op 20 [(.v 2), (.v 3)],
.op 20 [(.v 0), (.v 1)]]
def dec9pp01 : List (Nat × Bool) := [(5, true), (6, true), (7, false), (8, false), (10, true), (11, false), (12, true), (13, true), (14, true), (15, true), (16, true), (17, true)]
def st9pp01 : St := startSt [.one (.num .u8 4), .one (.sl 0 0 57), .one (.sl 1 0 57)] [(0, ptRow 0 1), (1, ptRow 2 3)] 5 2
def br9pp01 : BriefR := ⟨.ret, 19, ex9pp01, [], [.one (.bl 18)], []⟩
theorem run9pp01 : briefR (tabQ xu1) Try.f9 [] (runF (tabQ xu1) (fixN 66 2 dec9pp01 []) 3000 Try.f9 st9pp01) = some br9pp01 := by kernel_rfl
theorem law9pp01 {s : Nums}  {x0 y0 : Nat} (lx0 : x0 < pq) (ly0 : y0 < pq) (hon0 : onN x0 y0 = 1) {x1 y1 : Nat} (lx1 : x1 < pq) (ly1 : y1 < pq) (hon1 : onN x1 y1 = 1) {z : Nat} (hmod : z % 3 = 0) (hfar : farOf (addN x0 y0 x1 y1) = 1) (q0 : s 0 = x0) (q1 : s 1 = y0) (q2 : s 2 = x1) (q3 : s 3 = y1) (q4 : s 4 = z) (h : Holds s 19 ex9pp01) : s 5 = 1 ∧ s 6 = 1 ∧ s 7 = 0 ∧ s 8 = 0 ∧ s 10 = 1 ∧ s 11 = 0 ∧ s 12 = 1 ∧ s 13 = 1 ∧ s 14 = 1 ∧ s 15 = 1 ∧ s 16 = 1 ∧ s 17 = 1 ∧ s 18 = 1 := by
  obtain ⟨h18, h17, h16, h15, h14, h13, h12, h11, h10, h9, h8, h7, h6, h5, _⟩ := h
  have q5 : s 5 = 1 := ((show s 5 = onN (s 0) (s 1) from h5).trans (by rw [q0, q1])).trans hon0
  have q6 : s 6 = 1 := ((show s 6 = onN (s 2) (s 3) from h6).trans (by rw [q2, q3])).trans hon1
  have q7 : s 7 = 0 := (show s 7 = if s 5 = 0 then 1 else 0 from h7).trans (if_neg (by rw [q5]; decide))
  have q8 : s 8 = 0 := (show s 8 = if s 6 = 0 then 1 else 0 from h8).trans (if_neg (by rw [q6]; decide))
  have r9 : s 9 = s 4 % 3 := h9
  have q9 : s 9 = 0 := r9.trans (by rw [q4]; exact hmod)
  have q10 : s 10 = 1 := (show s 10 = if s 9 = 0 then 1 else 0 from h10).trans (if_pos (by rw [q9]))
  have q11 : s 11 = 0 := (show s 11 = if s 9 = 1 then 1 else 0 from h11).trans (if_neg (by rw [q9]; decide))
  have q12 : s 12 = 1 := ((show s 12 = onN (s 0) (s 1) from h12).trans (by rw [q0, q1])).trans hon0
  have q13 : s 13 = 1 := ((show s 13 = onN (s 2) (s 3) from h13).trans (by rw [q2, q3])).trans hon1
  have q14 : s 14 = 1 := ((show s 14 = farOf (addN (s 0) (s 1) (s 2) (s 3)) from h14).trans (by rw [q0, q1, q2, q3])).trans hfar
  have q15 : s 15 = 1 := ((show s 15 = onN (s 0) (s 1) from h15).trans (by rw [q0, q1])).trans hon0
  have q16 : s 16 = 1 := ((show s 16 = onN (s 2) (s 3) from h16).trans (by rw [q2, q3])).trans hon1
  have q17 : s 17 = 1 := ((show s 17 = farOf (addN (s 0) (s 1) (s 2) (s 3)) from h17).trans (by rw [q0, q1, q2, q3])).trans hfar
  have q18 : s 18 = 1 := (show s 18 = opVal 19 ([0] ++ [0]) from h18).trans (opVal_19 [0] [0] rfl)
  exact ⟨q5, q6, q7, q8, q10, q11, q12, q13, q14, q15, q16, q17, q18⟩
def ex9pp00 : List Ex := [
.op 19 ((Wd.c 4 :: (bs28 15 ++ bs28 16)) ++ (Wd.c 4 :: (bs28 20 ++ bs28 21))),
.op 4 [(.v 21), (.c pq)],
.op 4 [(.v 20), (.c pq)],
.op 23 [(.v 0), (.v 1), (.v 2), (.v 3)],
.op 22 [(.v 0), (.v 1), (.v 2), (.v 3)],
.op 21 [(.v 0), (.v 1), (.v 2), (.v 3)],
.op 20 [(.v 2), (.v 3)],
.op 20 [(.v 0), (.v 1)],
.op 23 [(.v 0), (.v 1), (.v 2), (.v 3)],
.op 22 [(.v 0), (.v 1), (.v 2), (.v 3)],
.op 21 [(.v 0), (.v 1), (.v 2), (.v 3)],
.op 20 [(.v 2), (.v 3)],
.op 20 [(.v 0), (.v 1)],
.feq (.v 9) (.c 1),
.feq (.v 9) (.c 0),
.op 28 [(.v 4), (.c 3)],
.feq (.v 6) (.c 0),
.feq (.v 5) (.c 0),
.op 20 [(.v 2), (.v 3)],
.op 20 [(.v 0), (.v 1)]]
def dec9pp00 : List (Nat × Bool) := [(5, true), (6, true), (7, false), (8, false), (10, true), (11, false), (12, true), (13, true), (14, false), (17, true), (18, true), (19, false), (22, true), (23, true)]
def st9pp00 : St := startSt [.one (.num .u8 4), .one (.sl 0 0 57), .one (.sl 1 0 57)] [(0, ptRow 0 1), (1, ptRow 2 3)] 5 2
def br9pp00 : BriefR := ⟨.ret, 25, ex9pp00, [], [.one (.bl 24)], []⟩
theorem run9pp00 : briefR (tabQ xu1) Try.f9 [] (runF (tabQ xu1) (fixN 66 2 dec9pp00 []) 3000 Try.f9 st9pp00) = some br9pp00 := by kernel_rfl
theorem law9pp00 {s : Nums}  {x0 y0 : Nat} (lx0 : x0 < pq) (ly0 : y0 < pq) (hon0 : onN x0 y0 = 1) {x1 y1 : Nat} (lx1 : x1 < pq) (ly1 : y1 < pq) (hon1 : onN x1 y1 = 1) {z : Nat} (hmod : z % 3 = 0) (hfar : farOf (addN x0 y0 x1 y1) = 0) (q0 : s 0 = x0) (q1 : s 1 = y0) (q2 : s 2 = x1) (q3 : s 3 = y1) (q4 : s 4 = z) (h : Holds s 25 ex9pp00) : s 5 = 1 ∧ s 6 = 1 ∧ s 7 = 0 ∧ s 8 = 0 ∧ s 10 = 1 ∧ s 11 = 0 ∧ s 12 = 1 ∧ s 13 = 1 ∧ s 14 = 0 ∧ s 17 = 1 ∧ s 18 = 1 ∧ s 19 = 0 ∧ s 22 = 1 ∧ s 23 = 1 ∧ s 24 = 1 := by
  obtain ⟨h24, h23, h22, h21, h20, h19, h18, h17, h16, h15, h14, h13, h12, h11, h10, h9, h8, h7, h6, h5, _⟩ := h
  have q5 : s 5 = 1 := ((show s 5 = onN (s 0) (s 1) from h5).trans (by rw [q0, q1])).trans hon0
  have q6 : s 6 = 1 := ((show s 6 = onN (s 2) (s 3) from h6).trans (by rw [q2, q3])).trans hon1
  have q7 : s 7 = 0 := (show s 7 = if s 5 = 0 then 1 else 0 from h7).trans (if_neg (by rw [q5]; decide))
  have q8 : s 8 = 0 := (show s 8 = if s 6 = 0 then 1 else 0 from h8).trans (if_neg (by rw [q6]; decide))
  have r9 : s 9 = s 4 % 3 := h9
  have q9 : s 9 = 0 := r9.trans (by rw [q4]; exact hmod)
  have q10 : s 10 = 1 := (show s 10 = if s 9 = 0 then 1 else 0 from h10).trans (if_pos (by rw [q9]))
  have q11 : s 11 = 0 := (show s 11 = if s 9 = 1 then 1 else 0 from h11).trans (if_neg (by rw [q9]; decide))
  have q12 : s 12 = 1 := ((show s 12 = onN (s 0) (s 1) from h12).trans (by rw [q0, q1])).trans hon0
  have q13 : s 13 = 1 := ((show s 13 = onN (s 2) (s 3) from h13).trans (by rw [q2, q3])).trans hon1
  have q14 : s 14 = 0 := ((show s 14 = farOf (addN (s 0) (s 1) (s 2) (s 3)) from h14).trans (by rw [q0, q1, q2, q3])).trans hfar
  have q15 : s 15 = xOf (addN x0 y0 x1 y1) := (show s 15 = xOf (addN (s 0) (s 1) (s 2) (s 3)) from h15).trans (by rw [q0, q1, q2, q3])
  have q16 : s 16 = yOf (addN x0 y0 x1 y1) := (show s 16 = yOf (addN (s 0) (s 1) (s 2) (s 3)) from h16).trans (by rw [q0, q1, q2, q3])
  have q17 : s 17 = 1 := ((show s 17 = onN (s 0) (s 1) from h17).trans (by rw [q0, q1])).trans hon0
  have q18 : s 18 = 1 := ((show s 18 = onN (s 2) (s 3) from h18).trans (by rw [q2, q3])).trans hon1
  have q19 : s 19 = 0 := ((show s 19 = farOf (addN (s 0) (s 1) (s 2) (s 3)) from h19).trans (by rw [q0, q1, q2, q3])).trans hfar
  have q20 : s 20 = xOf (addN x0 y0 x1 y1) := (show s 20 = xOf (addN (s 0) (s 1) (s 2) (s 3)) from h20).trans (by rw [q0, q1, q2, q3])
  have q21 : s 21 = yOf (addN x0 y0 x1 y1) := (show s 21 = yOf (addN (s 0) (s 1) (s 2) (s 3)) from h21).trans (by rw [q0, q1, q2, q3])
  have q22 : s 22 = 1 := (show s 22 = if s 20 < pq then 1 else 0 from h22).trans (if_pos (by rw [q20]; exact xOf_lt _))
  have q23 : s 23 = 1 := (show s 23 = if s 21 < pq then 1 else 0 from h23).trans (if_pos (by rw [q21]; exact yOf_lt _))
  have q24 : s 24 = 1 := same_pts h24 (by rw [q15, q20]) (by rw [q16, q21])
  exact ⟨q5, q6, q7, q8, q10, q11, q12, q13, q14, q17, q18, q19, q22, q23, q24⟩
def ex9pp11 : List Ex := [
.op 19 [.c 0, .c 0],
.op 21 [(.v 0), (.v 1), (.v 2), (.v 3)],
.op 20 [(.v 2), (.v 3)],
.op 20 [(.v 0), (.v 1)],
.op 21 [(.v 0), (.v 1), (.v 2), (.v 3)],
.op 20 [(.v 2), (.v 3)],
.op 20 [(.v 0), (.v 1)],
.feq (.v 9) (.c 1),
.feq (.v 9) (.c 0),
.op 28 [(.v 4), (.c 3)],
.feq (.v 6) (.c 0),
.feq (.v 5) (.c 0),
.op 20 [(.v 2), (.v 3)],
.op 20 [(.v 0), (.v 1)]]
def dec9pp11 : List (Nat × Bool) := [(5, true), (6, true), (7, false), (8, false), (10, false), (11, true), (12, true), (13, true), (14, true), (15, true), (16, true), (17, true)]
def st9pp11 : St := startSt [.one (.num .u8 4), .one (.sl 0 0 57), .one (.sl 1 0 57)] [(0, ptRow 0 1), (1, ptRow 2 3)] 5 2
def br9pp11 : BriefR := ⟨.ret, 19, ex9pp11, [], [.one (.bl 18)], []⟩
theorem run9pp11 : briefR (tabQ xu1) Try.f9 [] (runF (tabQ xu1) (fixN 66 2 dec9pp11 []) 3000 Try.f9 st9pp11) = some br9pp11 := by kernel_rfl
theorem law9pp11 {s : Nums}  {x0 y0 : Nat} (lx0 : x0 < pq) (ly0 : y0 < pq) (hon0 : onN x0 y0 = 1) {x1 y1 : Nat} (lx1 : x1 < pq) (ly1 : y1 < pq) (hon1 : onN x1 y1 = 1) {z : Nat} (hmod : z % 3 = 1) (hfar : farOf (addN x0 y0 x1 y1) = 1) (q0 : s 0 = x0) (q1 : s 1 = y0) (q2 : s 2 = x1) (q3 : s 3 = y1) (q4 : s 4 = z) (h : Holds s 19 ex9pp11) : s 5 = 1 ∧ s 6 = 1 ∧ s 7 = 0 ∧ s 8 = 0 ∧ s 10 = 0 ∧ s 11 = 1 ∧ s 12 = 1 ∧ s 13 = 1 ∧ s 14 = 1 ∧ s 15 = 1 ∧ s 16 = 1 ∧ s 17 = 1 ∧ s 18 = 1 := by
  obtain ⟨h18, h17, h16, h15, h14, h13, h12, h11, h10, h9, h8, h7, h6, h5, _⟩ := h
  have q5 : s 5 = 1 := ((show s 5 = onN (s 0) (s 1) from h5).trans (by rw [q0, q1])).trans hon0
  have q6 : s 6 = 1 := ((show s 6 = onN (s 2) (s 3) from h6).trans (by rw [q2, q3])).trans hon1
  have q7 : s 7 = 0 := (show s 7 = if s 5 = 0 then 1 else 0 from h7).trans (if_neg (by rw [q5]; decide))
  have q8 : s 8 = 0 := (show s 8 = if s 6 = 0 then 1 else 0 from h8).trans (if_neg (by rw [q6]; decide))
  have r9 : s 9 = s 4 % 3 := h9
  have q9 : s 9 = 1 := r9.trans (by rw [q4]; exact hmod)
  have q10 : s 10 = 0 := (show s 10 = if s 9 = 0 then 1 else 0 from h10).trans (if_neg (by rw [q9]; decide))
  have q11 : s 11 = 1 := (show s 11 = if s 9 = 1 then 1 else 0 from h11).trans (if_pos (by rw [q9]))
  have q12 : s 12 = 1 := ((show s 12 = onN (s 0) (s 1) from h12).trans (by rw [q0, q1])).trans hon0
  have q13 : s 13 = 1 := ((show s 13 = onN (s 2) (s 3) from h13).trans (by rw [q2, q3])).trans hon1
  have q14 : s 14 = 1 := ((show s 14 = farOf (addN (s 0) (s 1) (s 2) (s 3)) from h14).trans (by rw [q0, q1, q2, q3])).trans hfar
  have q15 : s 15 = 1 := ((show s 15 = onN (s 0) (s 1) from h15).trans (by rw [q0, q1])).trans hon0
  have q16 : s 16 = 1 := ((show s 16 = onN (s 2) (s 3) from h16).trans (by rw [q2, q3])).trans hon1
  have q17 : s 17 = 1 := ((show s 17 = farOf (addN (s 0) (s 1) (s 2) (s 3)) from h17).trans (by rw [q0, q1, q2, q3])).trans hfar
  have q18 : s 18 = 1 := (show s 18 = opVal 19 ([0] ++ [0]) from h18).trans (opVal_19 [0] [0] rfl)
  exact ⟨q5, q6, q7, q8, q10, q11, q12, q13, q14, q15, q16, q17, q18⟩
def ex9pp10 : List Ex := [
.op 19 ((Wd.c 4 :: (bs28 15 ++ bs28 16)) ++ (Wd.c 4 :: (bs28 20 ++ bs28 21))),
.op 4 [(.v 21), (.c pq)],
.op 4 [(.v 20), (.c pq)],
.op 23 [(.v 0), (.v 1), (.v 2), (.v 3)],
.op 22 [(.v 0), (.v 1), (.v 2), (.v 3)],
.op 21 [(.v 0), (.v 1), (.v 2), (.v 3)],
.op 20 [(.v 2), (.v 3)],
.op 20 [(.v 0), (.v 1)],
.op 23 [(.v 0), (.v 1), (.v 2), (.v 3)],
.op 22 [(.v 0), (.v 1), (.v 2), (.v 3)],
.op 21 [(.v 0), (.v 1), (.v 2), (.v 3)],
.op 20 [(.v 2), (.v 3)],
.op 20 [(.v 0), (.v 1)],
.feq (.v 9) (.c 1),
.feq (.v 9) (.c 0),
.op 28 [(.v 4), (.c 3)],
.feq (.v 6) (.c 0),
.feq (.v 5) (.c 0),
.op 20 [(.v 2), (.v 3)],
.op 20 [(.v 0), (.v 1)]]
def dec9pp10 : List (Nat × Bool) := [(5, true), (6, true), (7, false), (8, false), (10, false), (11, true), (12, true), (13, true), (14, false), (17, true), (18, true), (19, false), (22, true), (23, true)]
def st9pp10 : St := startSt [.one (.num .u8 4), .one (.sl 0 0 57), .one (.sl 1 0 57)] [(0, ptRow 0 1), (1, ptRow 2 3)] 5 2
def br9pp10 : BriefR := ⟨.ret, 25, ex9pp10, [], [.one (.bl 24)], []⟩
theorem run9pp10 : briefR (tabQ xu1) Try.f9 [] (runF (tabQ xu1) (fixN 66 2 dec9pp10 []) 3000 Try.f9 st9pp10) = some br9pp10 := by kernel_rfl
theorem law9pp10 {s : Nums}  {x0 y0 : Nat} (lx0 : x0 < pq) (ly0 : y0 < pq) (hon0 : onN x0 y0 = 1) {x1 y1 : Nat} (lx1 : x1 < pq) (ly1 : y1 < pq) (hon1 : onN x1 y1 = 1) {z : Nat} (hmod : z % 3 = 1) (hfar : farOf (addN x0 y0 x1 y1) = 0) (q0 : s 0 = x0) (q1 : s 1 = y0) (q2 : s 2 = x1) (q3 : s 3 = y1) (q4 : s 4 = z) (h : Holds s 25 ex9pp10) : s 5 = 1 ∧ s 6 = 1 ∧ s 7 = 0 ∧ s 8 = 0 ∧ s 10 = 0 ∧ s 11 = 1 ∧ s 12 = 1 ∧ s 13 = 1 ∧ s 14 = 0 ∧ s 17 = 1 ∧ s 18 = 1 ∧ s 19 = 0 ∧ s 22 = 1 ∧ s 23 = 1 ∧ s 24 = 1 := by
  obtain ⟨h24, h23, h22, h21, h20, h19, h18, h17, h16, h15, h14, h13, h12, h11, h10, h9, h8, h7, h6, h5, _⟩ := h
  have q5 : s 5 = 1 := ((show s 5 = onN (s 0) (s 1) from h5).trans (by rw [q0, q1])).trans hon0
  have q6 : s 6 = 1 := ((show s 6 = onN (s 2) (s 3) from h6).trans (by rw [q2, q3])).trans hon1
  have q7 : s 7 = 0 := (show s 7 = if s 5 = 0 then 1 else 0 from h7).trans (if_neg (by rw [q5]; decide))
  have q8 : s 8 = 0 := (show s 8 = if s 6 = 0 then 1 else 0 from h8).trans (if_neg (by rw [q6]; decide))
  have r9 : s 9 = s 4 % 3 := h9
  have q9 : s 9 = 1 := r9.trans (by rw [q4]; exact hmod)
  have q10 : s 10 = 0 := (show s 10 = if s 9 = 0 then 1 else 0 from h10).trans (if_neg (by rw [q9]; decide))
  have q11 : s 11 = 1 := (show s 11 = if s 9 = 1 then 1 else 0 from h11).trans (if_pos (by rw [q9]))
  have q12 : s 12 = 1 := ((show s 12 = onN (s 0) (s 1) from h12).trans (by rw [q0, q1])).trans hon0
  have q13 : s 13 = 1 := ((show s 13 = onN (s 2) (s 3) from h13).trans (by rw [q2, q3])).trans hon1
  have q14 : s 14 = 0 := ((show s 14 = farOf (addN (s 0) (s 1) (s 2) (s 3)) from h14).trans (by rw [q0, q1, q2, q3])).trans hfar
  have q15 : s 15 = xOf (addN x0 y0 x1 y1) := (show s 15 = xOf (addN (s 0) (s 1) (s 2) (s 3)) from h15).trans (by rw [q0, q1, q2, q3])
  have q16 : s 16 = yOf (addN x0 y0 x1 y1) := (show s 16 = yOf (addN (s 0) (s 1) (s 2) (s 3)) from h16).trans (by rw [q0, q1, q2, q3])
  have q17 : s 17 = 1 := ((show s 17 = onN (s 0) (s 1) from h17).trans (by rw [q0, q1])).trans hon0
  have q18 : s 18 = 1 := ((show s 18 = onN (s 2) (s 3) from h18).trans (by rw [q2, q3])).trans hon1
  have q19 : s 19 = 0 := ((show s 19 = farOf (addN (s 0) (s 1) (s 2) (s 3)) from h19).trans (by rw [q0, q1, q2, q3])).trans hfar
  have q20 : s 20 = xOf (addN x0 y0 x1 y1) := (show s 20 = xOf (addN (s 0) (s 1) (s 2) (s 3)) from h20).trans (by rw [q0, q1, q2, q3])
  have q21 : s 21 = yOf (addN x0 y0 x1 y1) := (show s 21 = yOf (addN (s 0) (s 1) (s 2) (s 3)) from h21).trans (by rw [q0, q1, q2, q3])
  have q22 : s 22 = 1 := (show s 22 = if s 20 < pq then 1 else 0 from h22).trans (if_pos (by rw [q20]; exact xOf_lt _))
  have q23 : s 23 = 1 := (show s 23 = if s 21 < pq then 1 else 0 from h23).trans (if_pos (by rw [q21]; exact yOf_lt _))
  have q24 : s 24 = 1 := same_pts h24 (by rw [q15, q20]) (by rw [q16, q21])
  exact ⟨q5, q6, q7, q8, q10, q11, q12, q13, q14, q17, q18, q19, q22, q23, q24⟩
def ex9pp20 : List Ex := [
.op 19 ((Wd.c 4 :: (bs28 15 ++ bs28 16)) ++ (Wd.c 4 :: (bs28 20 ++ bs28 21))),
.op 4 [(.v 21), (.c pq)],
.op 4 [(.v 20), (.c pq)],
.op 23 [(.v 0), (.v 1), (.v 0), (.v 1)],
.op 22 [(.v 0), (.v 1), (.v 0), (.v 1)],
.op 21 [(.v 0), (.v 1), (.v 0), (.v 1)],
.op 20 [(.v 0), (.v 1)],
.op 20 [(.v 0), (.v 1)],
.op 23 [(.v 0), (.v 1), (.v 0), (.v 1)],
.op 22 [(.v 0), (.v 1), (.v 0), (.v 1)],
.op 21 [(.v 0), (.v 1), (.v 0), (.v 1)],
.op 20 [(.v 2), (.v 3)],
.op 20 [(.v 0), (.v 1)],
.feq (.v 9) (.c 1),
.feq (.v 9) (.c 0),
.op 28 [(.v 4), (.c 3)],
.feq (.v 6) (.c 0),
.feq (.v 5) (.c 0),
.op 20 [(.v 2), (.v 3)],
.op 20 [(.v 0), (.v 1)]]
def dec9pp20 : List (Nat × Bool) := [(5, true), (6, true), (7, false), (8, false), (10, false), (11, false), (12, true), (13, true), (14, false), (17, true), (18, true), (19, false), (22, true), (23, true)]
def st9pp20 : St := startSt [.one (.num .u8 4), .one (.sl 0 0 57), .one (.sl 1 0 57)] [(0, ptRow 0 1), (1, ptRow 2 3)] 5 2
def br9pp20 : BriefR := ⟨.ret, 25, ex9pp20, [], [.one (.bl 24)], []⟩
theorem run9pp20 : briefR (tabQ xu1) Try.f9 [] (runF (tabQ xu1) (fixN 66 2 dec9pp20 []) 3000 Try.f9 st9pp20) = some br9pp20 := by kernel_rfl
theorem law9pp20 {s : Nums}  {x0 y0 : Nat} (lx0 : x0 < pq) (ly0 : y0 < pq) (hon0 : onN x0 y0 = 1) {x1 y1 : Nat} (lx1 : x1 < pq) (ly1 : y1 < pq) (hon1 : onN x1 y1 = 1) {z : Nat} (hmod : z % 3 = 2) (q0 : s 0 = x0) (q1 : s 1 = y0) (q2 : s 2 = x1) (q3 : s 3 = y1) (q4 : s 4 = z) (h : Holds s 25 ex9pp20) : s 5 = 1 ∧ s 6 = 1 ∧ s 7 = 0 ∧ s 8 = 0 ∧ s 10 = 0 ∧ s 11 = 0 ∧ s 12 = 1 ∧ s 13 = 1 ∧ s 14 = 0 ∧ s 17 = 1 ∧ s 18 = 1 ∧ s 19 = 0 ∧ s 22 = 1 ∧ s 23 = 1 ∧ s 24 = 1 := by
  obtain ⟨h24, h23, h22, h21, h20, h19, h18, h17, h16, h15, h14, h13, h12, h11, h10, h9, h8, h7, h6, h5, _⟩ := h
  have q5 : s 5 = 1 := ((show s 5 = onN (s 0) (s 1) from h5).trans (by rw [q0, q1])).trans hon0
  have q6 : s 6 = 1 := ((show s 6 = onN (s 2) (s 3) from h6).trans (by rw [q2, q3])).trans hon1
  have q7 : s 7 = 0 := (show s 7 = if s 5 = 0 then 1 else 0 from h7).trans (if_neg (by rw [q5]; decide))
  have q8 : s 8 = 0 := (show s 8 = if s 6 = 0 then 1 else 0 from h8).trans (if_neg (by rw [q6]; decide))
  have r9 : s 9 = s 4 % 3 := h9
  have q9 : s 9 = 2 := r9.trans (by rw [q4]; exact hmod)
  have q10 : s 10 = 0 := (show s 10 = if s 9 = 0 then 1 else 0 from h10).trans (if_neg (by rw [q9]; decide))
  have q11 : s 11 = 0 := (show s 11 = if s 9 = 1 then 1 else 0 from h11).trans (if_neg (by rw [q9]; decide))
  have q12 : s 12 = 1 := ((show s 12 = onN (s 0) (s 1) from h12).trans (by rw [q0, q1])).trans hon0
  have q13 : s 13 = 1 := ((show s 13 = onN (s 2) (s 3) from h13).trans (by rw [q2, q3])).trans hon1
  have q14 : s 14 = 0 := ((show s 14 = farOf (addN (s 0) (s 1) (s 0) (s 1)) from h14).trans (by rw [q0, q1])).trans (dbl_farOf ly0 hon0)
  have q15 : s 15 = xOf (addN x0 y0 x0 y0) := (show s 15 = xOf (addN (s 0) (s 1) (s 0) (s 1)) from h15).trans (by rw [q0, q1])
  have q16 : s 16 = yOf (addN x0 y0 x0 y0) := (show s 16 = yOf (addN (s 0) (s 1) (s 0) (s 1)) from h16).trans (by rw [q0, q1])
  have q17 : s 17 = 1 := ((show s 17 = onN (s 0) (s 1) from h17).trans (by rw [q0, q1])).trans hon0
  have q18 : s 18 = 1 := ((show s 18 = onN (s 0) (s 1) from h18).trans (by rw [q0, q1])).trans hon0
  have q19 : s 19 = 0 := ((show s 19 = farOf (addN (s 0) (s 1) (s 0) (s 1)) from h19).trans (by rw [q0, q1])).trans (dbl_farOf ly0 hon0)
  have q20 : s 20 = xOf (addN x0 y0 x0 y0) := (show s 20 = xOf (addN (s 0) (s 1) (s 0) (s 1)) from h20).trans (by rw [q0, q1])
  have q21 : s 21 = yOf (addN x0 y0 x0 y0) := (show s 21 = yOf (addN (s 0) (s 1) (s 0) (s 1)) from h21).trans (by rw [q0, q1])
  have q22 : s 22 = 1 := (show s 22 = if s 20 < pq then 1 else 0 from h22).trans (if_pos (by rw [q20]; exact xOf_lt _))
  have q23 : s 23 = 1 := (show s 23 = if s 21 < pq then 1 else 0 from h23).trans (if_pos (by rw [q21]; exact yOf_lt _))
  have q24 : s 24 = 1 := same_pts h24 (by rw [q15, q20]) (by rw [q16, q21])
  exact ⟨q5, q6, q7, q8, q10, q11, q12, q13, q14, q17, q18, q19, q22, q23, q24⟩
def ex9fp00 : List Ex := [
.op 19 ((Wd.c 4 :: (bs28 0 ++ bs28 1)) ++ (Wd.c 4 :: (bs28 0 ++ bs28 1))),
.op 4 [(.v 1), (.c pq)],
.op 4 [(.v 0), (.c pq)],
.op 20 [(.v 0), (.v 1)],
.feq (.v 5) (.c 1),
.feq (.v 5) (.c 0),
.op 28 [(.v 2), (.c 3)],
.feq (.v 3) (.c 0),
.op 20 [(.v 0), (.v 1)]]
def dec9fp00 : List (Nat × Bool) := [(3, true), (4, false), (6, true), (7, false), (8, true), (9, true), (10, true)]
def st9fp00 : St := startSt [.one (.num .u8 2), .one (.sl 0 0 1), .one (.sl 1 0 57)] [(0, [.lit (.int .u8 0)]), (1, ptRow 0 1)] 3 2
def br9fp00 : BriefR := ⟨.ret, 12, ex9fp00, [], [.one (.bl 11)], []⟩
theorem run9fp00 : briefR (tabQ xu1) Try.f9 [] (runF (tabQ xu1) (fixN 66 2 dec9fp00 []) 3000 Try.f9 st9fp00) = some br9fp00 := by kernel_rfl
theorem law9fp00 {s : Nums}  {x1 y1 : Nat} (lx1 : x1 < pq) (ly1 : y1 < pq) (hon1 : onN x1 y1 = 1) {z : Nat} (hmod : z % 3 = 0) (q0 : s 0 = x1) (q1 : s 1 = y1) (q2 : s 2 = z) (h : Holds s 12 ex9fp00) : s 3 = 1 ∧ s 4 = 0 ∧ s 6 = 1 ∧ s 7 = 0 ∧ s 8 = 1 ∧ s 9 = 1 ∧ s 10 = 1 ∧ s 11 = 1 := by
  obtain ⟨h11, h10, h9, h8, h7, h6, h5, h4, h3, _⟩ := h
  have q3 : s 3 = 1 := ((show s 3 = onN (s 0) (s 1) from h3).trans (by rw [q0, q1])).trans hon1
  have q4 : s 4 = 0 := (show s 4 = if s 3 = 0 then 1 else 0 from h4).trans (if_neg (by rw [q3]; decide))
  have r5 : s 5 = s 2 % 3 := h5
  have q5 : s 5 = 0 := r5.trans (by rw [q2]; exact hmod)
  have q6 : s 6 = 1 := (show s 6 = if s 5 = 0 then 1 else 0 from h6).trans (if_pos (by rw [q5]))
  have q7 : s 7 = 0 := (show s 7 = if s 5 = 1 then 1 else 0 from h7).trans (if_neg (by rw [q5]; decide))
  have q8 : s 8 = 1 := ((show s 8 = onN (s 0) (s 1) from h8).trans (by rw [q0, q1])).trans hon1
  have q9 : s 9 = 1 := (show s 9 = if s 0 < pq then 1 else 0 from h9).trans (if_pos (by rw [q0]; exact lx1))
  have q10 : s 10 = 1 := (show s 10 = if s 1 < pq then 1 else 0 from h10).trans (if_pos (by rw [q1]; exact ly1))
  have q11 : s 11 = 1 := same_pts h11 rfl rfl
  exact ⟨q3, q4, q6, q7, q8, q9, q10, q11⟩
def ex9fp10 : List Ex := [
.op 19 ((Wd.c 4 :: (bs28 0 ++ bs28 1)) ++ (Wd.c 4 :: (bs28 0 ++ bs28 1))),
.op 4 [(.v 1), (.c pq)],
.op 4 [(.v 0), (.c pq)],
.op 20 [(.v 0), (.v 1)],
.feq (.v 5) (.c 1),
.feq (.v 5) (.c 0),
.op 28 [(.v 2), (.c 3)],
.feq (.v 3) (.c 0),
.op 20 [(.v 0), (.v 1)]]
def dec9fp10 : List (Nat × Bool) := [(3, true), (4, false), (6, false), (7, true), (8, true), (9, true), (10, true)]
def st9fp10 : St := startSt [.one (.num .u8 2), .one (.sl 0 0 1), .one (.sl 1 0 57)] [(0, [.lit (.int .u8 0)]), (1, ptRow 0 1)] 3 2
def br9fp10 : BriefR := ⟨.ret, 12, ex9fp10, [], [.one (.bl 11)], []⟩
theorem run9fp10 : briefR (tabQ xu1) Try.f9 [] (runF (tabQ xu1) (fixN 66 2 dec9fp10 []) 3000 Try.f9 st9fp10) = some br9fp10 := by kernel_rfl
theorem law9fp10 {s : Nums}  {x1 y1 : Nat} (lx1 : x1 < pq) (ly1 : y1 < pq) (hon1 : onN x1 y1 = 1) {z : Nat} (hmod : z % 3 = 1) (q0 : s 0 = x1) (q1 : s 1 = y1) (q2 : s 2 = z) (h : Holds s 12 ex9fp10) : s 3 = 1 ∧ s 4 = 0 ∧ s 6 = 0 ∧ s 7 = 1 ∧ s 8 = 1 ∧ s 9 = 1 ∧ s 10 = 1 ∧ s 11 = 1 := by
  obtain ⟨h11, h10, h9, h8, h7, h6, h5, h4, h3, _⟩ := h
  have q3 : s 3 = 1 := ((show s 3 = onN (s 0) (s 1) from h3).trans (by rw [q0, q1])).trans hon1
  have q4 : s 4 = 0 := (show s 4 = if s 3 = 0 then 1 else 0 from h4).trans (if_neg (by rw [q3]; decide))
  have r5 : s 5 = s 2 % 3 := h5
  have q5 : s 5 = 1 := r5.trans (by rw [q2]; exact hmod)
  have q6 : s 6 = 0 := (show s 6 = if s 5 = 0 then 1 else 0 from h6).trans (if_neg (by rw [q5]; decide))
  have q7 : s 7 = 1 := (show s 7 = if s 5 = 1 then 1 else 0 from h7).trans (if_pos (by rw [q5]))
  have q8 : s 8 = 1 := ((show s 8 = onN (s 0) (s 1) from h8).trans (by rw [q0, q1])).trans hon1
  have q9 : s 9 = 1 := (show s 9 = if s 0 < pq then 1 else 0 from h9).trans (if_pos (by rw [q0]; exact lx1))
  have q10 : s 10 = 1 := (show s 10 = if s 1 < pq then 1 else 0 from h10).trans (if_pos (by rw [q1]; exact ly1))
  have q11 : s 11 = 1 := same_pts h11 rfl rfl
  exact ⟨q3, q4, q6, q7, q8, q9, q10, q11⟩
def ex9fp21 : List Ex := [
.op 19 [.c 0, .c 0],
.op 20 [(.v 0), (.v 1)],
.feq (.v 5) (.c 1),
.feq (.v 5) (.c 0),
.op 28 [(.v 2), (.c 3)],
.feq (.v 3) (.c 0),
.op 20 [(.v 0), (.v 1)]]
def dec9fp21 : List (Nat × Bool) := [(3, true), (4, false), (6, false), (7, false), (8, true)]
def st9fp21 : St := startSt [.one (.num .u8 2), .one (.sl 0 0 1), .one (.sl 1 0 57)] [(0, [.lit (.int .u8 0)]), (1, ptRow 0 1)] 3 2
def br9fp21 : BriefR := ⟨.ret, 10, ex9fp21, [], [.one (.bl 9)], []⟩
theorem run9fp21 : briefR (tabQ xu1) Try.f9 [] (runF (tabQ xu1) (fixN 66 2 dec9fp21 []) 3000 Try.f9 st9fp21) = some br9fp21 := by kernel_rfl
theorem law9fp21 {s : Nums}  {x1 y1 : Nat} (lx1 : x1 < pq) (ly1 : y1 < pq) (hon1 : onN x1 y1 = 1) {z : Nat} (hmod : z % 3 = 2) (q0 : s 0 = x1) (q1 : s 1 = y1) (q2 : s 2 = z) (h : Holds s 10 ex9fp21) : s 3 = 1 ∧ s 4 = 0 ∧ s 6 = 0 ∧ s 7 = 0 ∧ s 8 = 1 ∧ s 9 = 1 := by
  obtain ⟨h9, h8, h7, h6, h5, h4, h3, _⟩ := h
  have q3 : s 3 = 1 := ((show s 3 = onN (s 0) (s 1) from h3).trans (by rw [q0, q1])).trans hon1
  have q4 : s 4 = 0 := (show s 4 = if s 3 = 0 then 1 else 0 from h4).trans (if_neg (by rw [q3]; decide))
  have r5 : s 5 = s 2 % 3 := h5
  have q5 : s 5 = 2 := r5.trans (by rw [q2]; exact hmod)
  have q6 : s 6 = 0 := (show s 6 = if s 5 = 0 then 1 else 0 from h6).trans (if_neg (by rw [q5]; decide))
  have q7 : s 7 = 0 := (show s 7 = if s 5 = 1 then 1 else 0 from h7).trans (if_neg (by rw [q5]; decide))
  have q8 : s 8 = 1 := ((show s 8 = onN (s 0) (s 1) from h8).trans (by rw [q0, q1])).trans hon1
  have q9 : s 9 = 1 := (show s 9 = opVal 19 ([0] ++ [0]) from h9).trans (opVal_19 [0] [0] rfl)
  exact ⟨q3, q4, q6, q7, q8, q9⟩
def ex9pf00 : List Ex := [
.op 19 ((Wd.c 4 :: (bs28 0 ++ bs28 1)) ++ (Wd.c 4 :: (bs28 0 ++ bs28 1))),
.op 4 [(.v 1), (.c pq)],
.op 4 [(.v 0), (.c pq)],
.op 20 [(.v 0), (.v 1)],
.feq (.v 5) (.c 1),
.feq (.v 5) (.c 0),
.op 28 [(.v 2), (.c 3)],
.feq (.v 3) (.c 0),
.op 20 [(.v 0), (.v 1)]]
def dec9pf00 : List (Nat × Bool) := [(3, true), (4, false), (6, true), (7, false), (8, true), (9, true), (10, true)]
def st9pf00 : St := startSt [.one (.num .u8 2), .one (.sl 0 0 57), .one (.sl 1 0 1)] [(0, ptRow 0 1), (1, [.lit (.int .u8 0)])] 3 2
def br9pf00 : BriefR := ⟨.ret, 12, ex9pf00, [], [.one (.bl 11)], []⟩
theorem run9pf00 : briefR (tabQ xu1) Try.f9 [] (runF (tabQ xu1) (fixN 66 2 dec9pf00 []) 3000 Try.f9 st9pf00) = some br9pf00 := by kernel_rfl
theorem law9pf00 {s : Nums}  {x0 y0 : Nat} (lx0 : x0 < pq) (ly0 : y0 < pq) (hon0 : onN x0 y0 = 1) {z : Nat} (hmod : z % 3 = 0) (q0 : s 0 = x0) (q1 : s 1 = y0) (q2 : s 2 = z) (h : Holds s 12 ex9pf00) : s 3 = 1 ∧ s 4 = 0 ∧ s 6 = 1 ∧ s 7 = 0 ∧ s 8 = 1 ∧ s 9 = 1 ∧ s 10 = 1 ∧ s 11 = 1 := by
  obtain ⟨h11, h10, h9, h8, h7, h6, h5, h4, h3, _⟩ := h
  have q3 : s 3 = 1 := ((show s 3 = onN (s 0) (s 1) from h3).trans (by rw [q0, q1])).trans hon0
  have q4 : s 4 = 0 := (show s 4 = if s 3 = 0 then 1 else 0 from h4).trans (if_neg (by rw [q3]; decide))
  have r5 : s 5 = s 2 % 3 := h5
  have q5 : s 5 = 0 := r5.trans (by rw [q2]; exact hmod)
  have q6 : s 6 = 1 := (show s 6 = if s 5 = 0 then 1 else 0 from h6).trans (if_pos (by rw [q5]))
  have q7 : s 7 = 0 := (show s 7 = if s 5 = 1 then 1 else 0 from h7).trans (if_neg (by rw [q5]; decide))
  have q8 : s 8 = 1 := ((show s 8 = onN (s 0) (s 1) from h8).trans (by rw [q0, q1])).trans hon0
  have q9 : s 9 = 1 := (show s 9 = if s 0 < pq then 1 else 0 from h9).trans (if_pos (by rw [q0]; exact lx0))
  have q10 : s 10 = 1 := (show s 10 = if s 1 < pq then 1 else 0 from h10).trans (if_pos (by rw [q1]; exact ly0))
  have q11 : s 11 = 1 := same_pts h11 rfl rfl
  exact ⟨q3, q4, q6, q7, q8, q9, q10, q11⟩
def ex9pf10 : List Ex := [
.op 19 ((Wd.c 4 :: (bs28 0 ++ bs28 1)) ++ (Wd.c 4 :: (bs28 0 ++ bs28 1))),
.op 4 [(.v 1), (.c pq)],
.op 4 [(.v 0), (.c pq)],
.op 20 [(.v 0), (.v 1)],
.feq (.v 5) (.c 1),
.feq (.v 5) (.c 0),
.op 28 [(.v 2), (.c 3)],
.feq (.v 3) (.c 0),
.op 20 [(.v 0), (.v 1)]]
def dec9pf10 : List (Nat × Bool) := [(3, true), (4, false), (6, false), (7, true), (8, true), (9, true), (10, true)]
def st9pf10 : St := startSt [.one (.num .u8 2), .one (.sl 0 0 57), .one (.sl 1 0 1)] [(0, ptRow 0 1), (1, [.lit (.int .u8 0)])] 3 2
def br9pf10 : BriefR := ⟨.ret, 12, ex9pf10, [], [.one (.bl 11)], []⟩
theorem run9pf10 : briefR (tabQ xu1) Try.f9 [] (runF (tabQ xu1) (fixN 66 2 dec9pf10 []) 3000 Try.f9 st9pf10) = some br9pf10 := by kernel_rfl
theorem law9pf10 {s : Nums}  {x0 y0 : Nat} (lx0 : x0 < pq) (ly0 : y0 < pq) (hon0 : onN x0 y0 = 1) {z : Nat} (hmod : z % 3 = 1) (q0 : s 0 = x0) (q1 : s 1 = y0) (q2 : s 2 = z) (h : Holds s 12 ex9pf10) : s 3 = 1 ∧ s 4 = 0 ∧ s 6 = 0 ∧ s 7 = 1 ∧ s 8 = 1 ∧ s 9 = 1 ∧ s 10 = 1 ∧ s 11 = 1 := by
  obtain ⟨h11, h10, h9, h8, h7, h6, h5, h4, h3, _⟩ := h
  have q3 : s 3 = 1 := ((show s 3 = onN (s 0) (s 1) from h3).trans (by rw [q0, q1])).trans hon0
  have q4 : s 4 = 0 := (show s 4 = if s 3 = 0 then 1 else 0 from h4).trans (if_neg (by rw [q3]; decide))
  have r5 : s 5 = s 2 % 3 := h5
  have q5 : s 5 = 1 := r5.trans (by rw [q2]; exact hmod)
  have q6 : s 6 = 0 := (show s 6 = if s 5 = 0 then 1 else 0 from h6).trans (if_neg (by rw [q5]; decide))
  have q7 : s 7 = 1 := (show s 7 = if s 5 = 1 then 1 else 0 from h7).trans (if_pos (by rw [q5]))
  have q8 : s 8 = 1 := ((show s 8 = onN (s 0) (s 1) from h8).trans (by rw [q0, q1])).trans hon0
  have q9 : s 9 = 1 := (show s 9 = if s 0 < pq then 1 else 0 from h9).trans (if_pos (by rw [q0]; exact lx0))
  have q10 : s 10 = 1 := (show s 10 = if s 1 < pq then 1 else 0 from h10).trans (if_pos (by rw [q1]; exact ly0))
  have q11 : s 11 = 1 := same_pts h11 rfl rfl
  exact ⟨q3, q4, q6, q7, q8, q9, q10, q11⟩
def ex9pf20 : List Ex := [
.op 19 ((Wd.c 4 :: (bs28 10 ++ bs28 11)) ++ (Wd.c 4 :: (bs28 15 ++ bs28 16))),
.op 4 [(.v 16), (.c pq)],
.op 4 [(.v 15), (.c pq)],
.op 23 [(.v 0), (.v 1), (.v 0), (.v 1)],
.op 22 [(.v 0), (.v 1), (.v 0), (.v 1)],
.op 21 [(.v 0), (.v 1), (.v 0), (.v 1)],
.op 20 [(.v 0), (.v 1)],
.op 20 [(.v 0), (.v 1)],
.op 23 [(.v 0), (.v 1), (.v 0), (.v 1)],
.op 22 [(.v 0), (.v 1), (.v 0), (.v 1)],
.op 21 [(.v 0), (.v 1), (.v 0), (.v 1)],
.op 20 [(.v 0), (.v 1)],
.feq (.v 5) (.c 1),
.feq (.v 5) (.c 0),
.op 28 [(.v 2), (.c 3)],
.feq (.v 3) (.c 0),
.op 20 [(.v 0), (.v 1)]]
def dec9pf20 : List (Nat × Bool) := [(3, true), (4, false), (6, false), (7, false), (8, true), (9, false), (12, true), (13, true), (14, false), (17, true), (18, true)]
def st9pf20 : St := startSt [.one (.num .u8 2), .one (.sl 0 0 57), .one (.sl 1 0 1)] [(0, ptRow 0 1), (1, [.lit (.int .u8 0)])] 3 2
def br9pf20 : BriefR := ⟨.ret, 20, ex9pf20, [], [.one (.bl 19)], []⟩
theorem run9pf20 : briefR (tabQ xu1) Try.f9 [] (runF (tabQ xu1) (fixN 66 2 dec9pf20 []) 3000 Try.f9 st9pf20) = some br9pf20 := by kernel_rfl
theorem law9pf20 {s : Nums}  {x0 y0 : Nat} (lx0 : x0 < pq) (ly0 : y0 < pq) (hon0 : onN x0 y0 = 1) {z : Nat} (hmod : z % 3 = 2) (q0 : s 0 = x0) (q1 : s 1 = y0) (q2 : s 2 = z) (h : Holds s 20 ex9pf20) : s 3 = 1 ∧ s 4 = 0 ∧ s 6 = 0 ∧ s 7 = 0 ∧ s 8 = 1 ∧ s 9 = 0 ∧ s 12 = 1 ∧ s 13 = 1 ∧ s 14 = 0 ∧ s 17 = 1 ∧ s 18 = 1 ∧ s 19 = 1 := by
  obtain ⟨h19, h18, h17, h16, h15, h14, h13, h12, h11, h10, h9, h8, h7, h6, h5, h4, h3, _⟩ := h
  have q3 : s 3 = 1 := ((show s 3 = onN (s 0) (s 1) from h3).trans (by rw [q0, q1])).trans hon0
  have q4 : s 4 = 0 := (show s 4 = if s 3 = 0 then 1 else 0 from h4).trans (if_neg (by rw [q3]; decide))
  have r5 : s 5 = s 2 % 3 := h5
  have q5 : s 5 = 2 := r5.trans (by rw [q2]; exact hmod)
  have q6 : s 6 = 0 := (show s 6 = if s 5 = 0 then 1 else 0 from h6).trans (if_neg (by rw [q5]; decide))
  have q7 : s 7 = 0 := (show s 7 = if s 5 = 1 then 1 else 0 from h7).trans (if_neg (by rw [q5]; decide))
  have q8 : s 8 = 1 := ((show s 8 = onN (s 0) (s 1) from h8).trans (by rw [q0, q1])).trans hon0
  have q9 : s 9 = 0 := ((show s 9 = farOf (addN (s 0) (s 1) (s 0) (s 1)) from h9).trans (by rw [q0, q1])).trans (dbl_farOf ly0 hon0)
  have q10 : s 10 = xOf (addN x0 y0 x0 y0) := (show s 10 = xOf (addN (s 0) (s 1) (s 0) (s 1)) from h10).trans (by rw [q0, q1])
  have q11 : s 11 = yOf (addN x0 y0 x0 y0) := (show s 11 = yOf (addN (s 0) (s 1) (s 0) (s 1)) from h11).trans (by rw [q0, q1])
  have q12 : s 12 = 1 := ((show s 12 = onN (s 0) (s 1) from h12).trans (by rw [q0, q1])).trans hon0
  have q13 : s 13 = 1 := ((show s 13 = onN (s 0) (s 1) from h13).trans (by rw [q0, q1])).trans hon0
  have q14 : s 14 = 0 := ((show s 14 = farOf (addN (s 0) (s 1) (s 0) (s 1)) from h14).trans (by rw [q0, q1])).trans (dbl_farOf ly0 hon0)
  have q15 : s 15 = xOf (addN x0 y0 x0 y0) := (show s 15 = xOf (addN (s 0) (s 1) (s 0) (s 1)) from h15).trans (by rw [q0, q1])
  have q16 : s 16 = yOf (addN x0 y0 x0 y0) := (show s 16 = yOf (addN (s 0) (s 1) (s 0) (s 1)) from h16).trans (by rw [q0, q1])
  have q17 : s 17 = 1 := (show s 17 = if s 15 < pq then 1 else 0 from h17).trans (if_pos (by rw [q15]; exact xOf_lt _))
  have q18 : s 18 = 1 := (show s 18 = if s 16 < pq then 1 else 0 from h18).trans (if_pos (by rw [q16]; exact yOf_lt _))
  have q19 : s 19 = 1 := same_pts h19 (by rw [q10, q15]) (by rw [q11, q16])
  exact ⟨q3, q4, q6, q7, q8, q9, q12, q13, q14, q17, q18, q19⟩
def ex9ff01 : List Ex := [
.op 19 [.c 0, .c 0],
.feq (.v 1) (.c 1),
.feq (.v 1) (.c 0),
.op 28 [(.v 0), (.c 3)]]
def dec9ff01 : List (Nat × Bool) := [(2, true), (3, false)]
def st9ff01 : St := startSt [.one (.num .u8 0), .one (.sl 0 0 1), .one (.sl 1 0 1)] [(0, [.lit (.int .u8 0)]), (1, [.lit (.int .u8 0)])] 1 2
def br9ff01 : BriefR := ⟨.ret, 5, ex9ff01, [], [.one (.bl 4)], []⟩
theorem run9ff01 : briefR (tabQ xu1) Try.f9 [] (runF (tabQ xu1) (fixN 66 2 dec9ff01 []) 3000 Try.f9 st9ff01) = some br9ff01 := by kernel_rfl
theorem law9ff01 {s : Nums}  {z : Nat} (hmod : z % 3 = 0) (q0 : s 0 = z) (h : Holds s 5 ex9ff01) : s 2 = 1 ∧ s 3 = 0 ∧ s 4 = 1 := by
  obtain ⟨h4, h3, h2, h1, _⟩ := h
  have r1 : s 1 = s 0 % 3 := h1
  have q1 : s 1 = 0 := r1.trans (by rw [q0]; exact hmod)
  have q2 : s 2 = 1 := (show s 2 = if s 1 = 0 then 1 else 0 from h2).trans (if_pos (by rw [q1]))
  have q3 : s 3 = 0 := (show s 3 = if s 1 = 1 then 1 else 0 from h3).trans (if_neg (by rw [q1]; decide))
  have q4 : s 4 = 1 := (show s 4 = opVal 19 ([0] ++ [0]) from h4).trans (opVal_19 [0] [0] rfl)
  exact ⟨q2, q3, q4⟩
def ex9ff11 : List Ex := [
.op 19 [.c 0, .c 0],
.feq (.v 1) (.c 1),
.feq (.v 1) (.c 0),
.op 28 [(.v 0), (.c 3)]]
def dec9ff11 : List (Nat × Bool) := [(2, false), (3, true)]
def st9ff11 : St := startSt [.one (.num .u8 0), .one (.sl 0 0 1), .one (.sl 1 0 1)] [(0, [.lit (.int .u8 0)]), (1, [.lit (.int .u8 0)])] 1 2
def br9ff11 : BriefR := ⟨.ret, 5, ex9ff11, [], [.one (.bl 4)], []⟩
theorem run9ff11 : briefR (tabQ xu1) Try.f9 [] (runF (tabQ xu1) (fixN 66 2 dec9ff11 []) 3000 Try.f9 st9ff11) = some br9ff11 := by kernel_rfl
theorem law9ff11 {s : Nums}  {z : Nat} (hmod : z % 3 = 1) (q0 : s 0 = z) (h : Holds s 5 ex9ff11) : s 2 = 0 ∧ s 3 = 1 ∧ s 4 = 1 := by
  obtain ⟨h4, h3, h2, h1, _⟩ := h
  have r1 : s 1 = s 0 % 3 := h1
  have q1 : s 1 = 1 := r1.trans (by rw [q0]; exact hmod)
  have q2 : s 2 = 0 := (show s 2 = if s 1 = 0 then 1 else 0 from h2).trans (if_neg (by rw [q1]; decide))
  have q3 : s 3 = 1 := (show s 3 = if s 1 = 1 then 1 else 0 from h3).trans (if_pos (by rw [q1]))
  have q4 : s 4 = 1 := (show s 4 = opVal 19 ([0] ++ [0]) from h4).trans (opVal_19 [0] [0] rfl)
  exact ⟨q2, q3, q4⟩
def ex9ff21 : List Ex := [
.op 19 [.c 0, .c 0],
.feq (.v 1) (.c 1),
.feq (.v 1) (.c 0),
.op 28 [(.v 0), (.c 3)]]
def dec9ff21 : List (Nat × Bool) := [(2, false), (3, false)]
def st9ff21 : St := startSt [.one (.num .u8 0), .one (.sl 0 0 1), .one (.sl 1 0 1)] [(0, [.lit (.int .u8 0)]), (1, [.lit (.int .u8 0)])] 1 2
def br9ff21 : BriefR := ⟨.ret, 5, ex9ff21, [], [.one (.bl 4)], []⟩
theorem run9ff21 : briefR (tabQ xu1) Try.f9 [] (runF (tabQ xu1) (fixN 66 2 dec9ff21 []) 3000 Try.f9 st9ff21) = some br9ff21 := by kernel_rfl
theorem law9ff21 {s : Nums}  {z : Nat} (hmod : z % 3 = 2) (q0 : s 0 = z) (h : Holds s 5 ex9ff21) : s 2 = 0 ∧ s 3 = 0 ∧ s 4 = 1 := by
  obtain ⟨h4, h3, h2, h1, _⟩ := h
  have r1 : s 1 = s 0 % 3 := h1
  have q1 : s 1 = 2 := r1.trans (by rw [q0]; exact hmod)
  have q2 : s 2 = 0 := (show s 2 = if s 1 = 0 then 1 else 0 from h2).trans (if_neg (by rw [q1]; decide))
  have q3 : s 3 = 0 := (show s 3 = if s 1 = 1 then 1 else 0 from h3).trans (if_neg (by rw [q1]; decide))
  have q4 : s 4 = 1 := (show s 4 = opVal 19 ([0] ++ [0]) from h4).trans (opVal_19 [0] [0] rfl)
  exact ⟨q2, q3, q4⟩
theorem law9_good {w : World} {v v' : Value} {z : Nat} (hz : z < 256) (h1 : PtOf w v) (h2 : PtOf w v') : Law 9 w [.int .u8 (z : Int), v, v'] := by
  rcases h1 with ⟨b0, o0, c0, rfl, hc0, hp0⟩ | ⟨b0, o0, c0, x0, y0, rfl, hc0, hp0, lx0, ly0, hon0⟩
  · have lt0 : b0 < w.heap.size := World.block_lt_of_cell? w _ hp0
    rcases h2 with ⟨b1, o1, c1, rfl, hc1, hp1⟩ | ⟨b1, o1, c1, x1, y1, rfl, hc1, hp1, lx1, ly1, hon1⟩
    · have lt1 : b1 < w.heap.size := World.block_lt_of_cell? w _ hp1
      rcases (show z % 3 = 0 ∨ z % 3 = 1 ∨ z % 3 = 2 by omega) with hmod | hmod | hmod
      · skip
        refine calls_briefR (F := fixN 66 2 dec9ff01 []) (tabQ_ok xu1_ok) run9ff01 Try.func9 Try.ntmps9 rfl (by decide +kernel) (by decide +kernel) (by decide +kernel) (show 3 ≤ 66 by decide) (show 3 < 4095 by decide) (fun i =>  z) (fun r => if r = 0 then (b0, o0) else (b1, o1))
          (vals := [.int .u8 (z : Int), _, _]) (fun s hs => ⟨⟨by rw [hs 0 (by decide)] <;> rfl, by rw [hs 0 (by decide)]; exact hz⟩, ⟨c0, hc0, rfl, show 0 < 2 by decide⟩, ⟨c1, hc1, rfl, show 1 < 2 by decide⟩, trivial⟩) (fun s hs => ⟨show 0 < 2 by decide, ⟨⟨_, hp0, rfl⟩, trivial⟩, show 1 < 2 by decide, ⟨⟨_, hp1, rfl⟩, trivial⟩, trivial⟩) (fun r l hl hr => by cases hr) (fun r _ => (by show (if r = 0 then (b0, o0) else (b1, o1)).1 < _; split; exact lt0; exact lt1)) (fun r q _ _ h => by cases h) ?_ ?_
        · intro s hs hH i bb hb
          obtain ⟨q2, q3, q4⟩ := law9ff01  hmod (hs 0 (by decide)) hH
          have := findT_mem (show findT i dec9ff01 = some bb from hb)
          simp only [dec9ff01, List.mem_cons, List.not_mem_nil, or_false, Prod.mk.injEq] at this
          rcases this with ⟨rfl, rfl⟩ | ⟨rfl, rfl⟩ <;> assumption
        · intro s hs hH st' β' a' w' v hv hm hag hr hbe
          obtain ⟨q2, q3, q4⟩ := law9ff01  hmod (hs 0 (by decide)) hH
          have hv' : v = .bool (s 4 == 1) := hv.1
          refine ⟨?_, hbe⟩
          rw [hv', q4]
          rfl
      · skip
        refine calls_briefR (F := fixN 66 2 dec9ff11 []) (tabQ_ok xu1_ok) run9ff11 Try.func9 Try.ntmps9 rfl (by decide +kernel) (by decide +kernel) (by decide +kernel) (show 3 ≤ 66 by decide) (show 3 < 4095 by decide) (fun i =>  z) (fun r => if r = 0 then (b0, o0) else (b1, o1))
          (vals := [.int .u8 (z : Int), _, _]) (fun s hs => ⟨⟨by rw [hs 0 (by decide)] <;> rfl, by rw [hs 0 (by decide)]; exact hz⟩, ⟨c0, hc0, rfl, show 0 < 2 by decide⟩, ⟨c1, hc1, rfl, show 1 < 2 by decide⟩, trivial⟩) (fun s hs => ⟨show 0 < 2 by decide, ⟨⟨_, hp0, rfl⟩, trivial⟩, show 1 < 2 by decide, ⟨⟨_, hp1, rfl⟩, trivial⟩, trivial⟩) (fun r l hl hr => by cases hr) (fun r _ => (by show (if r = 0 then (b0, o0) else (b1, o1)).1 < _; split; exact lt0; exact lt1)) (fun r q _ _ h => by cases h) ?_ ?_
        · intro s hs hH i bb hb
          obtain ⟨q2, q3, q4⟩ := law9ff11  hmod (hs 0 (by decide)) hH
          have := findT_mem (show findT i dec9ff11 = some bb from hb)
          simp only [dec9ff11, List.mem_cons, List.not_mem_nil, or_false, Prod.mk.injEq] at this
          rcases this with ⟨rfl, rfl⟩ | ⟨rfl, rfl⟩ <;> assumption
        · intro s hs hH st' β' a' w' v hv hm hag hr hbe
          obtain ⟨q2, q3, q4⟩ := law9ff11  hmod (hs 0 (by decide)) hH
          have hv' : v = .bool (s 4 == 1) := hv.1
          refine ⟨?_, hbe⟩
          rw [hv', q4]
          rfl
      · skip
        refine calls_briefR (F := fixN 66 2 dec9ff21 []) (tabQ_ok xu1_ok) run9ff21 Try.func9 Try.ntmps9 rfl (by decide +kernel) (by decide +kernel) (by decide +kernel) (show 3 ≤ 66 by decide) (show 3 < 4095 by decide) (fun i =>  z) (fun r => if r = 0 then (b0, o0) else (b1, o1))
          (vals := [.int .u8 (z : Int), _, _]) (fun s hs => ⟨⟨by rw [hs 0 (by decide)] <;> rfl, by rw [hs 0 (by decide)]; exact hz⟩, ⟨c0, hc0, rfl, show 0 < 2 by decide⟩, ⟨c1, hc1, rfl, show 1 < 2 by decide⟩, trivial⟩) (fun s hs => ⟨show 0 < 2 by decide, ⟨⟨_, hp0, rfl⟩, trivial⟩, show 1 < 2 by decide, ⟨⟨_, hp1, rfl⟩, trivial⟩, trivial⟩) (fun r l hl hr => by cases hr) (fun r _ => (by show (if r = 0 then (b0, o0) else (b1, o1)).1 < _; split; exact lt0; exact lt1)) (fun r q _ _ h => by cases h) ?_ ?_
        · intro s hs hH i bb hb
          obtain ⟨q2, q3, q4⟩ := law9ff21  hmod (hs 0 (by decide)) hH
          have := findT_mem (show findT i dec9ff21 = some bb from hb)
          simp only [dec9ff21, List.mem_cons, List.not_mem_nil, or_false, Prod.mk.injEq] at this
          rcases this with ⟨rfl, rfl⟩ | ⟨rfl, rfl⟩ <;> assumption
        · intro s hs hH st' β' a' w' v hv hm hag hr hbe
          obtain ⟨q2, q3, q4⟩ := law9ff21  hmod (hs 0 (by decide)) hH
          have hv' : v = .bool (s 4 == 1) := hv.1
          refine ⟨?_, hbe⟩
          rw [hv', q4]
          rfl
    · have lt1 : b1 < w.heap.size := World.block_lt_of_cell? w _ (hp1 0 4 rfl)
      rcases (show z % 3 = 0 ∨ z % 3 = 1 ∨ z % 3 = 2 by omega) with hmod | hmod | hmod
      · skip
        refine calls_briefR (F := fixN 66 2 dec9fp00 []) (tabQ_ok xu1_ok) run9fp00 Try.func9 Try.ntmps9 rfl (by decide +kernel) (by decide +kernel) (by decide +kernel) (show 3 ≤ 66 by decide) (show 3 < 4095 by decide) (fun i => if i = 0 then x1 else if i = 1 then y1 else z) (fun r => if r = 0 then (b0, o0) else (b1, o1))
          (vals := [.int .u8 (z : Int), _, _]) (fun s hs => ⟨⟨by rw [hs 2 (by decide)] <;> rfl, by rw [hs 2 (by decide)]; exact hz⟩, ⟨c0, hc0, rfl, show 0 < 2 by decide⟩, ⟨c1, hc1, rfl, show 1 < 2 by decide⟩, trivial⟩) (fun s hs => ⟨show 0 < 2 by decide, ⟨⟨_, hp0, rfl⟩, trivial⟩, show 1 < 2 by decide, ptRow_row rfl hp1 (hs 0 (by decide)) (hs 1 (by decide)) lx1 ly1, trivial⟩) (fun r l hl hr => by cases hr) (fun r _ => (by show (if r = 0 then (b0, o0) else (b1, o1)).1 < _; split; exact lt0; exact lt1)) (fun r q _ _ h => by cases h) ?_ ?_
        · intro s hs hH i bb hb
          obtain ⟨q3, q4, q6, q7, q8, q9, q10, q11⟩ := law9fp00 (x1 := x1) (y1 := y1) lx1 ly1 hon1 hmod (hs 0 (by decide)) (hs 1 (by decide)) (hs 2 (by decide)) hH
          have := findT_mem (show findT i dec9fp00 = some bb from hb)
          simp only [dec9fp00, List.mem_cons, List.not_mem_nil, or_false, Prod.mk.injEq] at this
          rcases this with ⟨rfl, rfl⟩ | ⟨rfl, rfl⟩ | ⟨rfl, rfl⟩ | ⟨rfl, rfl⟩ | ⟨rfl, rfl⟩ | ⟨rfl, rfl⟩ | ⟨rfl, rfl⟩ <;> assumption
        · intro s hs hH st' β' a' w' v hv hm hag hr hbe
          obtain ⟨q3, q4, q6, q7, q8, q9, q10, q11⟩ := law9fp00 (x1 := x1) (y1 := y1) lx1 ly1 hon1 hmod (hs 0 (by decide)) (hs 1 (by decide)) (hs 2 (by decide)) hH
          have hv' : v = .bool (s 11 == 1) := hv.1
          refine ⟨?_, hbe⟩
          rw [hv', q11]
          rfl
      · skip
        refine calls_briefR (F := fixN 66 2 dec9fp10 []) (tabQ_ok xu1_ok) run9fp10 Try.func9 Try.ntmps9 rfl (by decide +kernel) (by decide +kernel) (by decide +kernel) (show 3 ≤ 66 by decide) (show 3 < 4095 by decide) (fun i => if i = 0 then x1 else if i = 1 then y1 else z) (fun r => if r = 0 then (b0, o0) else (b1, o1))
          (vals := [.int .u8 (z : Int), _, _]) (fun s hs => ⟨⟨by rw [hs 2 (by decide)] <;> rfl, by rw [hs 2 (by decide)]; exact hz⟩, ⟨c0, hc0, rfl, show 0 < 2 by decide⟩, ⟨c1, hc1, rfl, show 1 < 2 by decide⟩, trivial⟩) (fun s hs => ⟨show 0 < 2 by decide, ⟨⟨_, hp0, rfl⟩, trivial⟩, show 1 < 2 by decide, ptRow_row rfl hp1 (hs 0 (by decide)) (hs 1 (by decide)) lx1 ly1, trivial⟩) (fun r l hl hr => by cases hr) (fun r _ => (by show (if r = 0 then (b0, o0) else (b1, o1)).1 < _; split; exact lt0; exact lt1)) (fun r q _ _ h => by cases h) ?_ ?_
        · intro s hs hH i bb hb
          obtain ⟨q3, q4, q6, q7, q8, q9, q10, q11⟩ := law9fp10 (x1 := x1) (y1 := y1) lx1 ly1 hon1 hmod (hs 0 (by decide)) (hs 1 (by decide)) (hs 2 (by decide)) hH
          have := findT_mem (show findT i dec9fp10 = some bb from hb)
          simp only [dec9fp10, List.mem_cons, List.not_mem_nil, or_false, Prod.mk.injEq] at this
          rcases this with ⟨rfl, rfl⟩ | ⟨rfl, rfl⟩ | ⟨rfl, rfl⟩ | ⟨rfl, rfl⟩ | ⟨rfl, rfl⟩ | ⟨rfl, rfl⟩ | ⟨rfl, rfl⟩ <;> assumption
        · intro s hs hH st' β' a' w' v hv hm hag hr hbe
          obtain ⟨q3, q4, q6, q7, q8, q9, q10, q11⟩ := law9fp10 (x1 := x1) (y1 := y1) lx1 ly1 hon1 hmod (hs 0 (by decide)) (hs 1 (by decide)) (hs 2 (by decide)) hH
          have hv' : v = .bool (s 11 == 1) := hv.1
          refine ⟨?_, hbe⟩
          rw [hv', q11]
          rfl
      · skip
        refine calls_briefR (F := fixN 66 2 dec9fp21 []) (tabQ_ok xu1_ok) run9fp21 Try.func9 Try.ntmps9 rfl (by decide +kernel) (by decide +kernel) (by decide +kernel) (show 3 ≤ 66 by decide) (show 3 < 4095 by decide) (fun i => if i = 0 then x1 else if i = 1 then y1 else z) (fun r => if r = 0 then (b0, o0) else (b1, o1))
          (vals := [.int .u8 (z : Int), _, _]) (fun s hs => ⟨⟨by rw [hs 2 (by decide)] <;> rfl, by rw [hs 2 (by decide)]; exact hz⟩, ⟨c0, hc0, rfl, show 0 < 2 by decide⟩, ⟨c1, hc1, rfl, show 1 < 2 by decide⟩, trivial⟩) (fun s hs => ⟨show 0 < 2 by decide, ⟨⟨_, hp0, rfl⟩, trivial⟩, show 1 < 2 by decide, ptRow_row rfl hp1 (hs 0 (by decide)) (hs 1 (by decide)) lx1 ly1, trivial⟩) (fun r l hl hr => by cases hr) (fun r _ => (by show (if r = 0 then (b0, o0) else (b1, o1)).1 < _; split; exact lt0; exact lt1)) (fun r q _ _ h => by cases h) ?_ ?_
        · intro s hs hH i bb hb
          obtain ⟨q3, q4, q6, q7, q8, q9⟩ := law9fp21 (x1 := x1) (y1 := y1) lx1 ly1 hon1 hmod (hs 0 (by decide)) (hs 1 (by decide)) (hs 2 (by decide)) hH
          have := findT_mem (show findT i dec9fp21 = some bb from hb)
          simp only [dec9fp21, List.mem_cons, List.not_mem_nil, or_false, Prod.mk.injEq] at this
          rcases this with ⟨rfl, rfl⟩ | ⟨rfl, rfl⟩ | ⟨rfl, rfl⟩ | ⟨rfl, rfl⟩ | ⟨rfl, rfl⟩ <;> assumption
        · intro s hs hH st' β' a' w' v hv hm hag hr hbe
          obtain ⟨q3, q4, q6, q7, q8, q9⟩ := law9fp21 (x1 := x1) (y1 := y1) lx1 ly1 hon1 hmod (hs 0 (by decide)) (hs 1 (by decide)) (hs 2 (by decide)) hH
          have hv' : v = .bool (s 9 == 1) := hv.1
          refine ⟨?_, hbe⟩
          rw [hv', q9]
          rfl
  · have lt0 : b0 < w.heap.size := World.block_lt_of_cell? w _ (hp0 0 4 rfl)
    rcases h2 with ⟨b1, o1, c1, rfl, hc1, hp1⟩ | ⟨b1, o1, c1, x1, y1, rfl, hc1, hp1, lx1, ly1, hon1⟩
    · have lt1 : b1 < w.heap.size := World.block_lt_of_cell? w _ hp1
      rcases (show z % 3 = 0 ∨ z % 3 = 1 ∨ z % 3 = 2 by omega) with hmod | hmod | hmod
      · skip
        refine calls_briefR (F := fixN 66 2 dec9pf00 []) (tabQ_ok xu1_ok) run9pf00 Try.func9 Try.ntmps9 rfl (by decide +kernel) (by decide +kernel) (by decide +kernel) (show 3 ≤ 66 by decide) (show 3 < 4095 by decide) (fun i => if i = 0 then x0 else if i = 1 then y0 else z) (fun r => if r = 0 then (b0, o0) else (b1, o1))
          (vals := [.int .u8 (z : Int), _, _]) (fun s hs => ⟨⟨by rw [hs 2 (by decide)] <;> rfl, by rw [hs 2 (by decide)]; exact hz⟩, ⟨c0, hc0, rfl, show 0 < 2 by decide⟩, ⟨c1, hc1, rfl, show 1 < 2 by decide⟩, trivial⟩) (fun s hs => ⟨show 0 < 2 by decide, ptRow_row rfl hp0 (hs 0 (by decide)) (hs 1 (by decide)) lx0 ly0, show 1 < 2 by decide, ⟨⟨_, hp1, rfl⟩, trivial⟩, trivial⟩) (fun r l hl hr => by cases hr) (fun r _ => (by show (if r = 0 then (b0, o0) else (b1, o1)).1 < _; split; exact lt0; exact lt1)) (fun r q _ _ h => by cases h) ?_ ?_
        · intro s hs hH i bb hb
          obtain ⟨q3, q4, q6, q7, q8, q9, q10, q11⟩ := law9pf00 (x0 := x0) (y0 := y0) lx0 ly0 hon0 hmod (hs 0 (by decide)) (hs 1 (by decide)) (hs 2 (by decide)) hH
          have := findT_mem (show findT i dec9pf00 = some bb from hb)
          simp only [dec9pf00, List.mem_cons, List.not_mem_nil, or_false, Prod.mk.injEq] at this
          rcases this with ⟨rfl, rfl⟩ | ⟨rfl, rfl⟩ | ⟨rfl, rfl⟩ | ⟨rfl, rfl⟩ | ⟨rfl, rfl⟩ | ⟨rfl, rfl⟩ | ⟨rfl, rfl⟩ <;> assumption
        · intro s hs hH st' β' a' w' v hv hm hag hr hbe
          obtain ⟨q3, q4, q6, q7, q8, q9, q10, q11⟩ := law9pf00 (x0 := x0) (y0 := y0) lx0 ly0 hon0 hmod (hs 0 (by decide)) (hs 1 (by decide)) (hs 2 (by decide)) hH
          have hv' : v = .bool (s 11 == 1) := hv.1
          refine ⟨?_, hbe⟩
          rw [hv', q11]
          rfl
      · skip
        refine calls_briefR (F := fixN 66 2 dec9pf10 []) (tabQ_ok xu1_ok) run9pf10 Try.func9 Try.ntmps9 rfl (by decide +kernel) (by decide +kernel) (by decide +kernel) (show 3 ≤ 66 by decide) (show 3 < 4095 by decide) (fun i => if i = 0 then x0 else if i = 1 then y0 else z) (fun r => if r = 0 then (b0, o0) else (b1, o1))
          (vals := [.int .u8 (z : Int), _, _]) (fun s hs => ⟨⟨by rw [hs 2 (by decide)] <;> rfl, by rw [hs 2 (by decide)]; exact hz⟩, ⟨c0, hc0, rfl, show 0 < 2 by decide⟩, ⟨c1, hc1, rfl, show 1 < 2 by decide⟩, trivial⟩) (fun s hs => ⟨show 0 < 2 by decide, ptRow_row rfl hp0 (hs 0 (by decide)) (hs 1 (by decide)) lx0 ly0, show 1 < 2 by decide, ⟨⟨_, hp1, rfl⟩, trivial⟩, trivial⟩) (fun r l hl hr => by cases hr) (fun r _ => (by show (if r = 0 then (b0, o0) else (b1, o1)).1 < _; split; exact lt0; exact lt1)) (fun r q _ _ h => by cases h) ?_ ?_
        · intro s hs hH i bb hb
          obtain ⟨q3, q4, q6, q7, q8, q9, q10, q11⟩ := law9pf10 (x0 := x0) (y0 := y0) lx0 ly0 hon0 hmod (hs 0 (by decide)) (hs 1 (by decide)) (hs 2 (by decide)) hH
          have := findT_mem (show findT i dec9pf10 = some bb from hb)
          simp only [dec9pf10, List.mem_cons, List.not_mem_nil, or_false, Prod.mk.injEq] at this
          rcases this with ⟨rfl, rfl⟩ | ⟨rfl, rfl⟩ | ⟨rfl, rfl⟩ | ⟨rfl, rfl⟩ | ⟨rfl, rfl⟩ | ⟨rfl, rfl⟩ | ⟨rfl, rfl⟩ <;> assumption
        · intro s hs hH st' β' a' w' v hv hm hag hr hbe
          obtain ⟨q3, q4, q6, q7, q8, q9, q10, q11⟩ := law9pf10 (x0 := x0) (y0 := y0) lx0 ly0 hon0 hmod (hs 0 (by decide)) (hs 1 (by decide)) (hs 2 (by decide)) hH
          have hv' : v = .bool (s 11 == 1) := hv.1
          refine ⟨?_, hbe⟩
          rw [hv', q11]
          rfl
      · skip
        refine calls_briefR (F := fixN 66 2 dec9pf20 []) (tabQ_ok xu1_ok) run9pf20 Try.func9 Try.ntmps9 rfl (by decide +kernel) (by decide +kernel) (by decide +kernel) (show 3 ≤ 66 by decide) (show 3 < 4095 by decide) (fun i => if i = 0 then x0 else if i = 1 then y0 else z) (fun r => if r = 0 then (b0, o0) else (b1, o1))
          (vals := [.int .u8 (z : Int), _, _]) (fun s hs => ⟨⟨by rw [hs 2 (by decide)] <;> rfl, by rw [hs 2 (by decide)]; exact hz⟩, ⟨c0, hc0, rfl, show 0 < 2 by decide⟩, ⟨c1, hc1, rfl, show 1 < 2 by decide⟩, trivial⟩) (fun s hs => ⟨show 0 < 2 by decide, ptRow_row rfl hp0 (hs 0 (by decide)) (hs 1 (by decide)) lx0 ly0, show 1 < 2 by decide, ⟨⟨_, hp1, rfl⟩, trivial⟩, trivial⟩) (fun r l hl hr => by cases hr) (fun r _ => (by show (if r = 0 then (b0, o0) else (b1, o1)).1 < _; split; exact lt0; exact lt1)) (fun r q _ _ h => by cases h) ?_ ?_
        · intro s hs hH i bb hb
          obtain ⟨q3, q4, q6, q7, q8, q9, q12, q13, q14, q17, q18, q19⟩ := law9pf20 (x0 := x0) (y0 := y0) lx0 ly0 hon0 hmod (hs 0 (by decide)) (hs 1 (by decide)) (hs 2 (by decide)) hH
          have := findT_mem (show findT i dec9pf20 = some bb from hb)
          simp only [dec9pf20, List.mem_cons, List.not_mem_nil, or_false, Prod.mk.injEq] at this
          rcases this with ⟨rfl, rfl⟩ | ⟨rfl, rfl⟩ | ⟨rfl, rfl⟩ | ⟨rfl, rfl⟩ | ⟨rfl, rfl⟩ | ⟨rfl, rfl⟩ | ⟨rfl, rfl⟩ | ⟨rfl, rfl⟩ | ⟨rfl, rfl⟩ | ⟨rfl, rfl⟩ | ⟨rfl, rfl⟩ <;> assumption
        · intro s hs hH st' β' a' w' v hv hm hag hr hbe
          obtain ⟨q3, q4, q6, q7, q8, q9, q12, q13, q14, q17, q18, q19⟩ := law9pf20 (x0 := x0) (y0 := y0) lx0 ly0 hon0 hmod (hs 0 (by decide)) (hs 1 (by decide)) (hs 2 (by decide)) hH
          have hv' : v = .bool (s 19 == 1) := hv.1
          refine ⟨?_, hbe⟩
          rw [hv', q19]
          rfl
    · have lt1 : b1 < w.heap.size := World.block_lt_of_cell? w _ (hp1 0 4 rfl)
      rcases (show z % 3 = 0 ∨ z % 3 = 1 ∨ z % 3 = 2 by omega) with hmod | hmod | hmod
      · rcases farOf_cases (addN x0 y0 x1 y1) with ⟨hfar, _⟩ | ⟨hfar, _⟩
        · skip
          refine calls_briefR (F := fixN 66 2 dec9pp01 []) (tabQ_ok xu1_ok) run9pp01 Try.func9 Try.ntmps9 rfl (by decide +kernel) (by decide +kernel) (by decide +kernel) (show 3 ≤ 66 by decide) (show 3 < 4095 by decide) (fun i => if i = 0 then x0 else if i = 1 then y0 else if i = 2 then x1 else if i = 3 then y1 else z) (fun r => if r = 0 then (b0, o0) else (b1, o1))
            (vals := [.int .u8 (z : Int), _, _]) (fun s hs => ⟨⟨by rw [hs 4 (by decide)] <;> rfl, by rw [hs 4 (by decide)]; exact hz⟩, ⟨c0, hc0, rfl, show 0 < 2 by decide⟩, ⟨c1, hc1, rfl, show 1 < 2 by decide⟩, trivial⟩) (fun s hs => ⟨show 0 < 2 by decide, ptRow_row rfl hp0 (hs 0 (by decide)) (hs 1 (by decide)) lx0 ly0, show 1 < 2 by decide, ptRow_row rfl hp1 (hs 2 (by decide)) (hs 3 (by decide)) lx1 ly1, trivial⟩) (fun r l hl hr => by cases hr) (fun r _ => (by show (if r = 0 then (b0, o0) else (b1, o1)).1 < _; split; exact lt0; exact lt1)) (fun r q _ _ h => by cases h) ?_ ?_
          · intro s hs hH i bb hb
            obtain ⟨q5, q6, q7, q8, q10, q11, q12, q13, q14, q15, q16, q17, q18⟩ := law9pp01 (x0 := x0) (y0 := y0) (x1 := x1) (y1 := y1) lx0 ly0 hon0 lx1 ly1 hon1 hmod hfar (hs 0 (by decide)) (hs 1 (by decide)) (hs 2 (by decide)) (hs 3 (by decide)) (hs 4 (by decide)) hH
            have := findT_mem (show findT i dec9pp01 = some bb from hb)
            simp only [dec9pp01, List.mem_cons, List.not_mem_nil, or_false, Prod.mk.injEq] at this
            rcases this with ⟨rfl, rfl⟩ | ⟨rfl, rfl⟩ | ⟨rfl, rfl⟩ | ⟨rfl, rfl⟩ | ⟨rfl, rfl⟩ | ⟨rfl, rfl⟩ | ⟨rfl, rfl⟩ | ⟨rfl, rfl⟩ | ⟨rfl, rfl⟩ | ⟨rfl, rfl⟩ | ⟨rfl, rfl⟩ | ⟨rfl, rfl⟩ <;> assumption
          · intro s hs hH st' β' a' w' v hv hm hag hr hbe
            obtain ⟨q5, q6, q7, q8, q10, q11, q12, q13, q14, q15, q16, q17, q18⟩ := law9pp01 (x0 := x0) (y0 := y0) (x1 := x1) (y1 := y1) lx0 ly0 hon0 lx1 ly1 hon1 hmod hfar (hs 0 (by decide)) (hs 1 (by decide)) (hs 2 (by decide)) (hs 3 (by decide)) (hs 4 (by decide)) hH
            have hv' : v = .bool (s 18 == 1) := hv.1
            refine ⟨?_, hbe⟩
            rw [hv', q18]
            rfl
        · skip
          refine calls_briefR (F := fixN 66 2 dec9pp00 []) (tabQ_ok xu1_ok) run9pp00 Try.func9 Try.ntmps9 rfl (by decide +kernel) (by decide +kernel) (by decide +kernel) (show 3 ≤ 66 by decide) (show 3 < 4095 by decide) (fun i => if i = 0 then x0 else if i = 1 then y0 else if i = 2 then x1 else if i = 3 then y1 else z) (fun r => if r = 0 then (b0, o0) else (b1, o1))
            (vals := [.int .u8 (z : Int), _, _]) (fun s hs => ⟨⟨by rw [hs 4 (by decide)] <;> rfl, by rw [hs 4 (by decide)]; exact hz⟩, ⟨c0, hc0, rfl, show 0 < 2 by decide⟩, ⟨c1, hc1, rfl, show 1 < 2 by decide⟩, trivial⟩) (fun s hs => ⟨show 0 < 2 by decide, ptRow_row rfl hp0 (hs 0 (by decide)) (hs 1 (by decide)) lx0 ly0, show 1 < 2 by decide, ptRow_row rfl hp1 (hs 2 (by decide)) (hs 3 (by decide)) lx1 ly1, trivial⟩) (fun r l hl hr => by cases hr) (fun r _ => (by show (if r = 0 then (b0, o0) else (b1, o1)).1 < _; split; exact lt0; exact lt1)) (fun r q _ _ h => by cases h) ?_ ?_
          · intro s hs hH i bb hb
            obtain ⟨q5, q6, q7, q8, q10, q11, q12, q13, q14, q17, q18, q19, q22, q23, q24⟩ := law9pp00 (x0 := x0) (y0 := y0) (x1 := x1) (y1 := y1) lx0 ly0 hon0 lx1 ly1 hon1 hmod hfar (hs 0 (by decide)) (hs 1 (by decide)) (hs 2 (by decide)) (hs 3 (by decide)) (hs 4 (by decide)) hH
            have := findT_mem (show findT i dec9pp00 = some bb from hb)
            simp only [dec9pp00, List.mem_cons, List.not_mem_nil, or_false, Prod.mk.injEq] at this
            rcases this with ⟨rfl, rfl⟩ | ⟨rfl, rfl⟩ | ⟨rfl, rfl⟩ | ⟨rfl, rfl⟩ | ⟨rfl, rfl⟩ | ⟨rfl, rfl⟩ | ⟨rfl, rfl⟩ | ⟨rfl, rfl⟩ | ⟨rfl, rfl⟩ | ⟨rfl, rfl⟩ | ⟨rfl, rfl⟩ | ⟨rfl, rfl⟩ | ⟨rfl, rfl⟩ | ⟨rfl, rfl⟩ <;> assumption
          · intro s hs hH st' β' a' w' v hv hm hag hr hbe
            obtain ⟨q5, q6, q7, q8, q10, q11, q12, q13, q14, q17, q18, q19, q22, q23, q24⟩ := law9pp00 (x0 := x0) (y0 := y0) (x1 := x1) (y1 := y1) lx0 ly0 hon0 lx1 ly1 hon1 hmod hfar (hs 0 (by decide)) (hs 1 (by decide)) (hs 2 (by decide)) (hs 3 (by decide)) (hs 4 (by decide)) hH
            have hv' : v = .bool (s 24 == 1) := hv.1
            refine ⟨?_, hbe⟩
            rw [hv', q24]
            rfl
      · rcases farOf_cases (addN x0 y0 x1 y1) with ⟨hfar, _⟩ | ⟨hfar, _⟩
        · skip
          refine calls_briefR (F := fixN 66 2 dec9pp11 []) (tabQ_ok xu1_ok) run9pp11 Try.func9 Try.ntmps9 rfl (by decide +kernel) (by decide +kernel) (by decide +kernel) (show 3 ≤ 66 by decide) (show 3 < 4095 by decide) (fun i => if i = 0 then x0 else if i = 1 then y0 else if i = 2 then x1 else if i = 3 then y1 else z) (fun r => if r = 0 then (b0, o0) else (b1, o1))
            (vals := [.int .u8 (z : Int), _, _]) (fun s hs => ⟨⟨by rw [hs 4 (by decide)] <;> rfl, by rw [hs 4 (by decide)]; exact hz⟩, ⟨c0, hc0, rfl, show 0 < 2 by decide⟩, ⟨c1, hc1, rfl, show 1 < 2 by decide⟩, trivial⟩) (fun s hs => ⟨show 0 < 2 by decide, ptRow_row rfl hp0 (hs 0 (by decide)) (hs 1 (by decide)) lx0 ly0, show 1 < 2 by decide, ptRow_row rfl hp1 (hs 2 (by decide)) (hs 3 (by decide)) lx1 ly1, trivial⟩) (fun r l hl hr => by cases hr) (fun r _ => (by show (if r = 0 then (b0, o0) else (b1, o1)).1 < _; split; exact lt0; exact lt1)) (fun r q _ _ h => by cases h) ?_ ?_
          · intro s hs hH i bb hb
            obtain ⟨q5, q6, q7, q8, q10, q11, q12, q13, q14, q15, q16, q17, q18⟩ := law9pp11 (x0 := x0) (y0 := y0) (x1 := x1) (y1 := y1) lx0 ly0 hon0 lx1 ly1 hon1 hmod hfar (hs 0 (by decide)) (hs 1 (by decide)) (hs 2 (by decide)) (hs 3 (by decide)) (hs 4 (by decide)) hH
            have := findT_mem (show findT i dec9pp11 = some bb from hb)
            simp only [dec9pp11, List.mem_cons, List.not_mem_nil, or_false, Prod.mk.injEq] at this
            rcases this with ⟨rfl, rfl⟩ | ⟨rfl, rfl⟩ | ⟨rfl, rfl⟩ | ⟨rfl, rfl⟩ | ⟨rfl, rfl⟩ | ⟨rfl, rfl⟩ | ⟨rfl, rfl⟩ | ⟨rfl, rfl⟩ | ⟨rfl, rfl⟩ | ⟨rfl, rfl⟩ | ⟨rfl, rfl⟩ | ⟨rfl, rfl⟩ <;> assumption
          · intro s hs hH st' β' a' w' v hv hm hag hr hbe
            obtain ⟨q5, q6, q7, q8, q10, q11, q12, q13, q14, q15, q16, q17, q18⟩ := law9pp11 (x0 := x0) (y0 := y0) (x1 := x1) (y1 := y1) lx0 ly0 hon0 lx1 ly1 hon1 hmod hfar (hs 0 (by decide)) (hs 1 (by decide)) (hs 2 (by decide)) (hs 3 (by decide)) (hs 4 (by decide)) hH
            have hv' : v = .bool (s 18 == 1) := hv.1
            refine ⟨?_, hbe⟩
            rw [hv', q18]
            rfl
        · skip
          refine calls_briefR (F := fixN 66 2 dec9pp10 []) (tabQ_ok xu1_ok) run9pp10 Try.func9 Try.ntmps9 rfl (by decide +kernel) (by decide +kernel) (by decide +kernel) (show 3 ≤ 66 by decide) (show 3 < 4095 by decide) (fun i => if i = 0 then x0 else if i = 1 then y0 else if i = 2 then x1 else if i = 3 then y1 else z) (fun r => if r = 0 then (b0, o0) else (b1, o1))
            (vals := [.int .u8 (z : Int), _, _]) (fun s hs => ⟨⟨by rw [hs 4 (by decide)] <;> rfl, by rw [hs 4 (by decide)]; exact hz⟩, ⟨c0, hc0, rfl, show 0 < 2 by decide⟩, ⟨c1, hc1, rfl, show 1 < 2 by decide⟩, trivial⟩) (fun s hs => ⟨show 0 < 2 by decide, ptRow_row rfl hp0 (hs 0 (by decide)) (hs 1 (by decide)) lx0 ly0, show 1 < 2 by decide, ptRow_row rfl hp1 (hs 2 (by decide)) (hs 3 (by decide)) lx1 ly1, trivial⟩) (fun r l hl hr => by cases hr) (fun r _ => (by show (if r = 0 then (b0, o0) else (b1, o1)).1 < _; split; exact lt0; exact lt1)) (fun r q _ _ h => by cases h) ?_ ?_
          · intro s hs hH i bb hb
            obtain ⟨q5, q6, q7, q8, q10, q11, q12, q13, q14, q17, q18, q19, q22, q23, q24⟩ := law9pp10 (x0 := x0) (y0 := y0) (x1 := x1) (y1 := y1) lx0 ly0 hon0 lx1 ly1 hon1 hmod hfar (hs 0 (by decide)) (hs 1 (by decide)) (hs 2 (by decide)) (hs 3 (by decide)) (hs 4 (by decide)) hH
            have := findT_mem (show findT i dec9pp10 = some bb from hb)
            simp only [dec9pp10, List.mem_cons, List.not_mem_nil, or_false, Prod.mk.injEq] at this
            rcases this with ⟨rfl, rfl⟩ | ⟨rfl, rfl⟩ | ⟨rfl, rfl⟩ | ⟨rfl, rfl⟩ | ⟨rfl, rfl⟩ | ⟨rfl, rfl⟩ | ⟨rfl, rfl⟩ | ⟨rfl, rfl⟩ | ⟨rfl, rfl⟩ | ⟨rfl, rfl⟩ | ⟨rfl, rfl⟩ | ⟨rfl, rfl⟩ | ⟨rfl, rfl⟩ | ⟨rfl, rfl⟩ <;> assumption
          · intro s hs hH st' β' a' w' v hv hm hag hr hbe
            obtain ⟨q5, q6, q7, q8, q10, q11, q12, q13, q14, q17, q18, q19, q22, q23, q24⟩ := law9pp10 (x0 := x0) (y0 := y0) (x1 := x1) (y1 := y1) lx0 ly0 hon0 lx1 ly1 hon1 hmod hfar (hs 0 (by decide)) (hs 1 (by decide)) (hs 2 (by decide)) (hs 3 (by decide)) (hs 4 (by decide)) hH
            have hv' : v = .bool (s 24 == 1) := hv.1
            refine ⟨?_, hbe⟩
            rw [hv', q24]
            rfl
      · skip
        refine calls_briefR (F := fixN 66 2 dec9pp20 []) (tabQ_ok xu1_ok) run9pp20 Try.func9 Try.ntmps9 rfl (by decide +kernel) (by decide +kernel) (by decide +kernel) (show 3 ≤ 66 by decide) (show 3 < 4095 by decide) (fun i => if i = 0 then x0 else if i = 1 then y0 else if i = 2 then x1 else if i = 3 then y1 else z) (fun r => if r = 0 then (b0, o0) else (b1, o1))
          (vals := [.int .u8 (z : Int), _, _]) (fun s hs => ⟨⟨by rw [hs 4 (by decide)] <;> rfl, by rw [hs 4 (by decide)]; exact hz⟩, ⟨c0, hc0, rfl, show 0 < 2 by decide⟩, ⟨c1, hc1, rfl, show 1 < 2 by decide⟩, trivial⟩) (fun s hs => ⟨show 0 < 2 by decide, ptRow_row rfl hp0 (hs 0 (by decide)) (hs 1 (by decide)) lx0 ly0, show 1 < 2 by decide, ptRow_row rfl hp1 (hs 2 (by decide)) (hs 3 (by decide)) lx1 ly1, trivial⟩) (fun r l hl hr => by cases hr) (fun r _ => (by show (if r = 0 then (b0, o0) else (b1, o1)).1 < _; split; exact lt0; exact lt1)) (fun r q _ _ h => by cases h) ?_ ?_
        · intro s hs hH i bb hb
          obtain ⟨q5, q6, q7, q8, q10, q11, q12, q13, q14, q17, q18, q19, q22, q23, q24⟩ := law9pp20 (x0 := x0) (y0 := y0) (x1 := x1) (y1 := y1) lx0 ly0 hon0 lx1 ly1 hon1 hmod (hs 0 (by decide)) (hs 1 (by decide)) (hs 2 (by decide)) (hs 3 (by decide)) (hs 4 (by decide)) hH
          have := findT_mem (show findT i dec9pp20 = some bb from hb)
          simp only [dec9pp20, List.mem_cons, List.not_mem_nil, or_false, Prod.mk.injEq] at this
          rcases this with ⟨rfl, rfl⟩ | ⟨rfl, rfl⟩ | ⟨rfl, rfl⟩ | ⟨rfl, rfl⟩ | ⟨rfl, rfl⟩ | ⟨rfl, rfl⟩ | ⟨rfl, rfl⟩ | ⟨rfl, rfl⟩ | ⟨rfl, rfl⟩ | ⟨rfl, rfl⟩ | ⟨rfl, rfl⟩ | ⟨rfl, rfl⟩ | ⟨rfl, rfl⟩ | ⟨rfl, rfl⟩ <;> assumption
        · intro s hs hH st' β' a' w' v hv hm hag hr hbe
          obtain ⟨q5, q6, q7, q8, q10, q11, q12, q13, q14, q17, q18, q19, q22, q23, q24⟩ := law9pp20 (x0 := x0) (y0 := y0) (x1 := x1) (y1 := y1) lx0 ly0 hon0 lx1 ly1 hon1 hmod (hs 0 (by decide)) (hs 1 (by decide)) (hs 2 (by decide)) (hs 3 (by decide)) (hs 4 (by decide)) hH
          have hv' : v = .bool (s 24 == 1) := hv.1
          refine ⟨?_, hbe⟩
          rw [hv', q24]
          rfl
theorem law9_all {w : World} {v v' : Value} {z : Nat} (hz : z < 256) {b o n u d f b' o' n' u' d' f' : Nat} (h : Sl w v b o n u d f) (h' : Sl w v' b' o' n' u' d' f') : Law 9 w [.int .u8 (z : Int), v, v'] := by
  by_cases hb : 2147483647 < n ∨ 2147483647 < n' ∨ f = 0 ∨ f' = 0
  · exact law_twoB (tabQ_ok xu1_ok) run9b1 run9b2 run9b3 run9b4 Try.func9 Try.ntmps9 (by decide) hz h h' hb
  · have hf : f = 1 := by have := h.flag.le; omega
    have hf' : f' = 1 := by have := h'.flag.le; omega
    subst hf
    subst hf'
    exact law9_good hz h.point h'.point
end P224
