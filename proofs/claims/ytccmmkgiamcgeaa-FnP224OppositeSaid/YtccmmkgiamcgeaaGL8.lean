/- Law Opposite. PRINTED BY A PROGRAM OF MY OWN (gen/mkL8.py). -/
import Derived.Test.YtccmmkgiamcgeaaGR12
set_option linter.all false
namespace P224
open Go Go.RowKit Go.Proofs
set_option maxRecDepth 100000
set_option linter.unusedVariables false
theorem run8b1 : briefR (tabQ xu1) Try.f8 [] (runF (tabQ xu1) (fixN 59 2 [(8, true)] npSy2) 3000 Try.f8 stSy2) = some ⟨.ret, 9, [lenE 0], [], [.one (.lit (.bool true))], []⟩ := by kernel_rfl
theorem run8b2 : briefR (tabQ xu1) Try.f8 [] (runF (tabQ xu1) (fixN 59 2 [(8, false), (9, true)] npSy2) 3000 Try.f8 stSy2) = some ⟨.ret, 10, [lenE 4, lenE 0], [], [.one (.lit (.bool true))], []⟩ := by kernel_rfl
theorem run8b3 : briefR (tabQ xu1) Try.f8 [] (runF (tabQ xu1) (fixN 59 2 [(8, false), (9, false), (10, true)] npSy2) 3000 Try.f8 stSy2) = some ⟨.ret, 11, [.feq (.v 3) (.c 0), lenE 4, lenE 0], [], [.one (.lit (.bool true))], []⟩ := by kernel_rfl
theorem run8b4 : briefR (tabQ xu1) Try.f8 [] (runF (tabQ xu1) (fixN 59 2 [(8, false), (9, false), (10, false), (11, true)] npSy2) 3000 Try.f8 stSy2) = some ⟨.ret, 12, [.feq (.v 7) (.c 0), .feq (.v 3) (.c 0), lenE 4, lenE 0], [], [.one (.lit (.bool true))], []⟩ := by kernel_rfl
def ex8F : List Ex := [
.feq (.v 3) (.v 8),
.feq (.v 2) (.v 0),
.op 19 [.c 0, .c 0],
.op 21 [(.v 0), (.v 1), (.v 2), (.v 3)],
.op 20 [(.v 2), (.v 3)],
.op 20 [(.v 0), (.v 1)],
.op 19 [.c 0, .c 0],
.op 21 [(.v 0), (.v 1), (.v 0), (.v 8)],
.op 20 [(.v 0), (.v 8)],
.op 20 [(.v 0), (.v 1)],
.op 4 [(.v 8), (.c pq)],
.op 4 [(.v 0), (.c pq)],
.op 14 [(.c 0), (.v 1)],
.feq (.v 5) (.c 0),
.feq (.v 4) (.c 0),
.op 20 [(.v 2), (.v 3)],
.op 20 [(.v 0), (.v 1)]]
def dec8F : List (Nat × Bool) := [(4, true), (5, true), (6, false), (7, false), (9, true), (10, true), (11, true), (12, true), (13, true), (14, true), (15, true), (16, true), (17, true), (18, true), (19, true), (20, true)]
def st8F : St := startSt [.one (.sl 0 0 57), .one (.sl 1 0 57)] [(0, ptRow 0 1), (1, ptRow 2 3)] 4 2
def br8F : BriefR := ⟨.ret, 21, ex8F, [], [.one (.lit (.bool true))], []⟩
theorem run8F : briefR (tabQ xu1) Try.f8 [] (runF (tabQ xu1) (fixN 59 2 dec8F []) 3000 Try.f8 st8F) = some br8F := by kernel_rfl
theorem law8F {s : Nums}  {x0 y0 : Nat} (lx0 : x0 < pq) (ly0 : y0 < pq) (hon0 : onN x0 y0 = 1) {x1 y1 : Nat} (lx1 : x1 < pq) (ly1 : y1 < pq) (hon1 : onN x1 y1 = 1) (hfar : farOf (addN x0 y0 x1 y1) = 1) (ex : x1 = x0) (ey : y1 = negN y0) (q0 : s 0 = x0) (q1 : s 1 = y0) (q2 : s 2 = x1) (q3 : s 3 = y1) (h : Holds s 21 ex8F) : s 4 = 1 ∧ s 5 = 1 ∧ s 6 = 0 ∧ s 7 = 0 ∧ s 9 = 1 ∧ s 10 = 1 ∧ s 11 = 1 ∧ s 12 = 1 ∧ s 13 = 1 ∧ s 14 = 1 ∧ s 15 = 1 ∧ s 16 = 1 ∧ s 17 = 1 ∧ s 18 = 1 ∧ s 19 = 1 ∧ s 20 = 1 := by
  obtain ⟨h20, h19, h18, h17, h16, h15, h14, h13, h12, h11, h10, h9, h8, h7, h6, h5, h4, _⟩ := h
  have q4 : s 4 = 1 := ((show s 4 = onN (s 0) (s 1) from h4).trans (by rw [q0, q1])).trans hon0
  have q5 : s 5 = 1 := ((show s 5 = onN (s 2) (s 3) from h5).trans (by rw [q2, q3])).trans hon1
  have q6 : s 6 = 0 := (show s 6 = if s 4 = 0 then 1 else 0 from h6).trans (if_neg (by rw [q4]; decide))
  have q7 : s 7 = 0 := (show s 7 = if s 5 = 0 then 1 else 0 from h7).trans (if_neg (by rw [q5]; decide))
  have q8 : s 8 = negN y0 := (show s 8 = ((((0 : Nat) : Int) - ((s 1 : Nat) : Int)) % (pq : Int)).toNat from h8).trans (by rw [q1]; rfl)
  have q9 : s 9 = 1 := (show s 9 = if s 0 < pq then 1 else 0 from h9).trans (if_pos (by rw [q0]; exact lx0))
  have q10 : s 10 = 1 := (show s 10 = if s 8 < pq then 1 else 0 from h10).trans (if_pos (by rw [q8]; exact negN_lt _))
  have q11 : s 11 = 1 := ((show s 11 = onN (s 0) (s 1) from h11).trans (by rw [q0, q1])).trans hon0
  have q12 : s 12 = 1 := ((show s 12 = onN (s 0) (s 8) from h12).trans (by rw [q0, q8])).trans (on_neg hon0)
  have q13 : s 13 = 1 := ((show s 13 = farOf (addN (s 0) (s 1) (s 0) (s 8)) from h13).trans (by rw [q0, q1, q8])).trans (far_neg hon0)
  have q14 : s 14 = 1 := (show s 14 = opVal 19 ([0] ++ [0]) from h14).trans (opVal_19 [0] [0] rfl)
  have q15 : s 15 = 1 := ((show s 15 = onN (s 0) (s 1) from h15).trans (by rw [q0, q1])).trans hon0
  have q16 : s 16 = 1 := ((show s 16 = onN (s 2) (s 3) from h16).trans (by rw [q2, q3])).trans hon1
  have q17 : s 17 = 1 := ((show s 17 = farOf (addN (s 0) (s 1) (s 2) (s 3)) from h17).trans (by rw [q0, q1, q2, q3])).trans hfar
  have q18 : s 18 = 1 := (show s 18 = opVal 19 ([0] ++ [0]) from h18).trans (opVal_19 [0] [0] rfl)
  have q19 : s 19 = 1 := (show s 19 = if s 2 = s 0 then 1 else 0 from h19).trans (if_pos (by rw [q2, q0]; exact ex))
  have q20 : s 20 = 1 := (show s 20 = if s 3 = s 8 then 1 else 0 from h20).trans (if_pos (by rw [q3, q8]; exact ey))
  exact ⟨q4, q5, q6, q7, q9, q10, q11, q12, q13, q14, q15, q16, q17, q18, q19, q20⟩
def ex8N1 : List Ex := [
.feq (.v 2) (.v 0),
.op 23 [(.v 0), (.v 1), (.v 2), (.v 3)],
.op 22 [(.v 0), (.v 1), (.v 2), (.v 3)],
.op 21 [(.v 0), (.v 1), (.v 2), (.v 3)],
.op 20 [(.v 2), (.v 3)],
.op 20 [(.v 0), (.v 1)],
.op 19 [.c 0, .c 0],
.op 21 [(.v 0), (.v 1), (.v 0), (.v 8)],
.op 20 [(.v 0), (.v 8)],
.op 20 [(.v 0), (.v 1)],
.op 4 [(.v 8), (.c pq)],
.op 4 [(.v 0), (.c pq)],
.op 14 [(.c 0), (.v 1)],
.feq (.v 5) (.c 0),
.feq (.v 4) (.c 0),
.op 20 [(.v 2), (.v 3)],
.op 20 [(.v 0), (.v 1)]]
def dec8N1 : List (Nat × Bool) := [(4, true), (5, true), (6, false), (7, false), (9, true), (10, true), (11, true), (12, true), (13, true), (14, true), (15, true), (16, true), (17, false), (20, false)]
def st8N1 : St := startSt [.one (.sl 0 0 57), .one (.sl 1 0 57)] [(0, ptRow 0 1), (1, ptRow 2 3)] 4 2
def br8N1 : BriefR := ⟨.ret, 21, ex8N1, [], [.one (.lit (.bool true))], []⟩
theorem run8N1 : briefR (tabQ xu1) Try.f8 [] (runF (tabQ xu1) (fixN 59 2 dec8N1 []) 3000 Try.f8 st8N1) = some br8N1 := by kernel_rfl
theorem law8N1 {s : Nums}  {x0 y0 : Nat} (lx0 : x0 < pq) (ly0 : y0 < pq) (hon0 : onN x0 y0 = 1) {x1 y1 : Nat} (lx1 : x1 < pq) (ly1 : y1 < pq) (hon1 : onN x1 y1 = 1) (hfar : farOf (addN x0 y0 x1 y1) = 0) (ex : x1 ≠ x0) (q0 : s 0 = x0) (q1 : s 1 = y0) (q2 : s 2 = x1) (q3 : s 3 = y1) (h : Holds s 21 ex8N1) : s 4 = 1 ∧ s 5 = 1 ∧ s 6 = 0 ∧ s 7 = 0 ∧ s 9 = 1 ∧ s 10 = 1 ∧ s 11 = 1 ∧ s 12 = 1 ∧ s 13 = 1 ∧ s 14 = 1 ∧ s 15 = 1 ∧ s 16 = 1 ∧ s 17 = 0 ∧ s 20 = 0 := by
  obtain ⟨h20, h19, h18, h17, h16, h15, h14, h13, h12, h11, h10, h9, h8, h7, h6, h5, h4, _⟩ := h
  have q4 : s 4 = 1 := ((show s 4 = onN (s 0) (s 1) from h4).trans (by rw [q0, q1])).trans hon0
  have q5 : s 5 = 1 := ((show s 5 = onN (s 2) (s 3) from h5).trans (by rw [q2, q3])).trans hon1
  have q6 : s 6 = 0 := (show s 6 = if s 4 = 0 then 1 else 0 from h6).trans (if_neg (by rw [q4]; decide))
  have q7 : s 7 = 0 := (show s 7 = if s 5 = 0 then 1 else 0 from h7).trans (if_neg (by rw [q5]; decide))
  have q8 : s 8 = negN y0 := (show s 8 = ((((0 : Nat) : Int) - ((s 1 : Nat) : Int)) % (pq : Int)).toNat from h8).trans (by rw [q1]; rfl)
  have q9 : s 9 = 1 := (show s 9 = if s 0 < pq then 1 else 0 from h9).trans (if_pos (by rw [q0]; exact lx0))
  have q10 : s 10 = 1 := (show s 10 = if s 8 < pq then 1 else 0 from h10).trans (if_pos (by rw [q8]; exact negN_lt _))
  have q11 : s 11 = 1 := ((show s 11 = onN (s 0) (s 1) from h11).trans (by rw [q0, q1])).trans hon0
  have q12 : s 12 = 1 := ((show s 12 = onN (s 0) (s 8) from h12).trans (by rw [q0, q8])).trans (on_neg hon0)
  have q13 : s 13 = 1 := ((show s 13 = farOf (addN (s 0) (s 1) (s 0) (s 8)) from h13).trans (by rw [q0, q1, q8])).trans (far_neg hon0)
  have q14 : s 14 = 1 := (show s 14 = opVal 19 ([0] ++ [0]) from h14).trans (opVal_19 [0] [0] rfl)
  have q15 : s 15 = 1 := ((show s 15 = onN (s 0) (s 1) from h15).trans (by rw [q0, q1])).trans hon0
  have q16 : s 16 = 1 := ((show s 16 = onN (s 2) (s 3) from h16).trans (by rw [q2, q3])).trans hon1
  have q17 : s 17 = 0 := ((show s 17 = farOf (addN (s 0) (s 1) (s 2) (s 3)) from h17).trans (by rw [q0, q1, q2, q3])).trans hfar
  have q18 : s 18 = xOf (addN x0 y0 x1 y1) := (show s 18 = xOf (addN (s 0) (s 1) (s 2) (s 3)) from h18).trans (by rw [q0, q1, q2, q3])
  have q19 : s 19 = yOf (addN x0 y0 x1 y1) := (show s 19 = yOf (addN (s 0) (s 1) (s 2) (s 3)) from h19).trans (by rw [q0, q1, q2, q3])
  have q20 : s 20 = 0 := (show s 20 = if s 2 = s 0 then 1 else 0 from h20).trans (if_neg (by rw [q2, q0]; exact ex))
  exact ⟨q4, q5, q6, q7, q9, q10, q11, q12, q13, q14, q15, q16, q17, q20⟩
def ex8N2 : List Ex := [
.feq (.v 3) (.v 8),
.feq (.v 2) (.v 0),
.op 23 [(.v 0), (.v 1), (.v 2), (.v 3)],
.op 22 [(.v 0), (.v 1), (.v 2), (.v 3)],
.op 21 [(.v 0), (.v 1), (.v 2), (.v 3)],
.op 20 [(.v 2), (.v 3)],
.op 20 [(.v 0), (.v 1)],
.op 19 [.c 0, .c 0],
.op 21 [(.v 0), (.v 1), (.v 0), (.v 8)],
.op 20 [(.v 0), (.v 8)],
.op 20 [(.v 0), (.v 1)],
.op 4 [(.v 8), (.c pq)],
.op 4 [(.v 0), (.c pq)],
.op 14 [(.c 0), (.v 1)],
.feq (.v 5) (.c 0),
.feq (.v 4) (.c 0),
.op 20 [(.v 2), (.v 3)],
.op 20 [(.v 0), (.v 1)]]
def dec8N2 : List (Nat × Bool) := [(4, true), (5, true), (6, false), (7, false), (9, true), (10, true), (11, true), (12, true), (13, true), (14, true), (15, true), (16, true), (17, false), (20, true), (21, false)]
def st8N2 : St := startSt [.one (.sl 0 0 57), .one (.sl 1 0 57)] [(0, ptRow 0 1), (1, ptRow 2 3)] 4 2
def br8N2 : BriefR := ⟨.ret, 22, ex8N2, [], [.one (.lit (.bool true))], []⟩
theorem run8N2 : briefR (tabQ xu1) Try.f8 [] (runF (tabQ xu1) (fixN 59 2 dec8N2 []) 3000 Try.f8 st8N2) = some br8N2 := by kernel_rfl
theorem law8N2 {s : Nums}  {x0 y0 : Nat} (lx0 : x0 < pq) (ly0 : y0 < pq) (hon0 : onN x0 y0 = 1) {x1 y1 : Nat} (lx1 : x1 < pq) (ly1 : y1 < pq) (hon1 : onN x1 y1 = 1) (hfar : farOf (addN x0 y0 x1 y1) = 0) (ex : x1 = x0) (ey : y1 ≠ negN y0) (q0 : s 0 = x0) (q1 : s 1 = y0) (q2 : s 2 = x1) (q3 : s 3 = y1) (h : Holds s 22 ex8N2) : s 4 = 1 ∧ s 5 = 1 ∧ s 6 = 0 ∧ s 7 = 0 ∧ s 9 = 1 ∧ s 10 = 1 ∧ s 11 = 1 ∧ s 12 = 1 ∧ s 13 = 1 ∧ s 14 = 1 ∧ s 15 = 1 ∧ s 16 = 1 ∧ s 17 = 0 ∧ s 20 = 1 ∧ s 21 = 0 := by
  obtain ⟨h21, h20, h19, h18, h17, h16, h15, h14, h13, h12, h11, h10, h9, h8, h7, h6, h5, h4, _⟩ := h
  have q4 : s 4 = 1 := ((show s 4 = onN (s 0) (s 1) from h4).trans (by rw [q0, q1])).trans hon0
  have q5 : s 5 = 1 := ((show s 5 = onN (s 2) (s 3) from h5).trans (by rw [q2, q3])).trans hon1
  have q6 : s 6 = 0 := (show s 6 = if s 4 = 0 then 1 else 0 from h6).trans (if_neg (by rw [q4]; decide))
  have q7 : s 7 = 0 := (show s 7 = if s 5 = 0 then 1 else 0 from h7).trans (if_neg (by rw [q5]; decide))
  have q8 : s 8 = negN y0 := (show s 8 = ((((0 : Nat) : Int) - ((s 1 : Nat) : Int)) % (pq : Int)).toNat from h8).trans (by rw [q1]; rfl)
  have q9 : s 9 = 1 := (show s 9 = if s 0 < pq then 1 else 0 from h9).trans (if_pos (by rw [q0]; exact lx0))
  have q10 : s 10 = 1 := (show s 10 = if s 8 < pq then 1 else 0 from h10).trans (if_pos (by rw [q8]; exact negN_lt _))
  have q11 : s 11 = 1 := ((show s 11 = onN (s 0) (s 1) from h11).trans (by rw [q0, q1])).trans hon0
  have q12 : s 12 = 1 := ((show s 12 = onN (s 0) (s 8) from h12).trans (by rw [q0, q8])).trans (on_neg hon0)
  have q13 : s 13 = 1 := ((show s 13 = farOf (addN (s 0) (s 1) (s 0) (s 8)) from h13).trans (by rw [q0, q1, q8])).trans (far_neg hon0)
  have q14 : s 14 = 1 := (show s 14 = opVal 19 ([0] ++ [0]) from h14).trans (opVal_19 [0] [0] rfl)
  have q15 : s 15 = 1 := ((show s 15 = onN (s 0) (s 1) from h15).trans (by rw [q0, q1])).trans hon0
  have q16 : s 16 = 1 := ((show s 16 = onN (s 2) (s 3) from h16).trans (by rw [q2, q3])).trans hon1
  have q17 : s 17 = 0 := ((show s 17 = farOf (addN (s 0) (s 1) (s 2) (s 3)) from h17).trans (by rw [q0, q1, q2, q3])).trans hfar
  have q18 : s 18 = xOf (addN x0 y0 x1 y1) := (show s 18 = xOf (addN (s 0) (s 1) (s 2) (s 3)) from h18).trans (by rw [q0, q1, q2, q3])
  have q19 : s 19 = yOf (addN x0 y0 x1 y1) := (show s 19 = yOf (addN (s 0) (s 1) (s 2) (s 3)) from h19).trans (by rw [q0, q1, q2, q3])
  have q20 : s 20 = 1 := (show s 20 = if s 2 = s 0 then 1 else 0 from h20).trans (if_pos (by rw [q2, q0]; exact ex))
  have q21 : s 21 = 0 := (show s 21 = if s 3 = s 8 then 1 else 0 from h21).trans (if_neg (by rw [q3, q8]; exact ey))
  exact ⟨q4, q5, q6, q7, q9, q10, q11, q12, q13, q14, q15, q16, q17, q20, q21⟩
def ex8fp : List Ex := [
.op 20 [(.v 0), (.v 1)],
.op 19 [.c 0, .c 0],
.feq (.v 2) (.c 0),
.op 20 [(.v 0), (.v 1)]]
def dec8fp : List (Nat × Bool) := [(2, true), (3, false), (4, true), (5, true)]
def st8fp : St := startSt [.one (.sl 0 0 1), .one (.sl 1 0 57)] [(0, [.lit (.int .u8 0)]), (1, ptRow 0 1)] 2 2
def br8fp : BriefR := ⟨.ret, 6, ex8fp, [], [.one (.lit (.bool true))], []⟩
theorem run8fp : briefR (tabQ xu1) Try.f8 [] (runF (tabQ xu1) (fixN 59 2 dec8fp []) 3000 Try.f8 st8fp) = some br8fp := by kernel_rfl
theorem law8fp {s : Nums}  {x1 y1 : Nat} (lx1 : x1 < pq) (ly1 : y1 < pq) (hon1 : onN x1 y1 = 1) (q0 : s 0 = x1) (q1 : s 1 = y1) (h : Holds s 6 ex8fp) : s 2 = 1 ∧ s 3 = 0 ∧ s 4 = 1 ∧ s 5 = 1 := by
  obtain ⟨h5, h4, h3, h2, _⟩ := h
  have q2 : s 2 = 1 := ((show s 2 = onN (s 0) (s 1) from h2).trans (by rw [q0, q1])).trans hon1
  have q3 : s 3 = 0 := (show s 3 = if s 2 = 0 then 1 else 0 from h3).trans (if_neg (by rw [q2]; decide))
  have q4 : s 4 = 1 := (show s 4 = opVal 19 ([0] ++ [0]) from h4).trans (opVal_19 [0] [0] rfl)
  have q5 : s 5 = 1 := ((show s 5 = onN (s 0) (s 1) from h5).trans (by rw [q0, q1])).trans hon1
  exact ⟨q2, q3, q4, q5⟩
def ex8pf : List Ex := [
.op 20 [(.v 0), (.v 1)],
.op 19 [.c 0, .c 0],
.op 21 [(.v 0), (.v 1), (.v 0), (.v 4)],
.op 20 [(.v 0), (.v 4)],
.op 20 [(.v 0), (.v 1)],
.op 4 [(.v 4), (.c pq)],
.op 4 [(.v 0), (.c pq)],
.op 14 [(.c 0), (.v 1)],
.feq (.v 2) (.c 0),
.op 20 [(.v 0), (.v 1)]]
def dec8pf : List (Nat × Bool) := [(2, true), (3, false), (5, true), (6, true), (7, true), (8, true), (9, true), (10, true), (11, true)]
def st8pf : St := startSt [.one (.sl 0 0 57), .one (.sl 1 0 1)] [(0, ptRow 0 1), (1, [.lit (.int .u8 0)])] 2 2
def br8pf : BriefR := ⟨.ret, 12, ex8pf, [], [.one (.lit (.bool true))], []⟩
theorem run8pf : briefR (tabQ xu1) Try.f8 [] (runF (tabQ xu1) (fixN 59 2 dec8pf []) 3000 Try.f8 st8pf) = some br8pf := by kernel_rfl
theorem law8pf {s : Nums}  {x0 y0 : Nat} (lx0 : x0 < pq) (ly0 : y0 < pq) (hon0 : onN x0 y0 = 1) (q0 : s 0 = x0) (q1 : s 1 = y0) (h : Holds s 12 ex8pf) : s 2 = 1 ∧ s 3 = 0 ∧ s 5 = 1 ∧ s 6 = 1 ∧ s 7 = 1 ∧ s 8 = 1 ∧ s 9 = 1 ∧ s 10 = 1 ∧ s 11 = 1 := by
  obtain ⟨h11, h10, h9, h8, h7, h6, h5, h4, h3, h2, _⟩ := h
  have q2 : s 2 = 1 := ((show s 2 = onN (s 0) (s 1) from h2).trans (by rw [q0, q1])).trans hon0
  have q3 : s 3 = 0 := (show s 3 = if s 2 = 0 then 1 else 0 from h3).trans (if_neg (by rw [q2]; decide))
  have q4 : s 4 = negN y0 := (show s 4 = ((((0 : Nat) : Int) - ((s 1 : Nat) : Int)) % (pq : Int)).toNat from h4).trans (by rw [q1]; rfl)
  have q5 : s 5 = 1 := (show s 5 = if s 0 < pq then 1 else 0 from h5).trans (if_pos (by rw [q0]; exact lx0))
  have q6 : s 6 = 1 := (show s 6 = if s 4 < pq then 1 else 0 from h6).trans (if_pos (by rw [q4]; exact negN_lt _))
  have q7 : s 7 = 1 := ((show s 7 = onN (s 0) (s 1) from h7).trans (by rw [q0, q1])).trans hon0
  have q8 : s 8 = 1 := ((show s 8 = onN (s 0) (s 4) from h8).trans (by rw [q0, q4])).trans (on_neg hon0)
  have q9 : s 9 = 1 := ((show s 9 = farOf (addN (s 0) (s 1) (s 0) (s 4)) from h9).trans (by rw [q0, q1, q4])).trans (far_neg hon0)
  have q10 : s 10 = 1 := (show s 10 = opVal 19 ([0] ++ [0]) from h10).trans (opVal_19 [0] [0] rfl)
  have q11 : s 11 = 1 := ((show s 11 = onN (s 0) (s 1) from h11).trans (by rw [q0, q1])).trans hon0
  exact ⟨q2, q3, q5, q6, q7, q8, q9, q10, q11⟩
def ex8ff : List Ex := [
.op 19 [.c 0, .c 0],
.op 19 [.c 0, .c 0]]
def dec8ff : List (Nat × Bool) := [(0, true), (1, true)]
def st8ff : St := startSt [.one (.sl 0 0 1), .one (.sl 1 0 1)] [(0, [.lit (.int .u8 0)]), (1, [.lit (.int .u8 0)])] 0 2
def br8ff : BriefR := ⟨.ret, 2, ex8ff, [], [.one (.lit (.bool true))], []⟩
theorem run8ff : briefR (tabQ xu1) Try.f8 [] (runF (tabQ xu1) (fixN 59 2 dec8ff []) 3000 Try.f8 st8ff) = some br8ff := by kernel_rfl
theorem law8ff {s : Nums}   (h : Holds s 2 ex8ff) : s 0 = 1 ∧ s 1 = 1 := by
  obtain ⟨h1, h0, _⟩ := h
  have q0 : s 0 = 1 := (show s 0 = opVal 19 ([0] ++ [0]) from h0).trans (opVal_19 [0] [0] rfl)
  have q1 : s 1 = 1 := (show s 1 = opVal 19 ([0] ++ [0]) from h1).trans (opVal_19 [0] [0] rfl)
  exact ⟨q0, q1⟩
theorem law8_good {w : World} {v v' : Value} (h1 : PtOf w v) (h2 : PtOf w v') : Law 8 w [v, v'] := by
  rcases h1 with ⟨b0, o0, c0, rfl, hc0, hp0⟩ | ⟨b0, o0, c0, x0, y0, rfl, hc0, hp0, lx0, ly0, hon0⟩
  · have lt0 : b0 < w.heap.size := World.block_lt_of_cell? w _ hp0
    rcases h2 with ⟨b1, o1, c1, rfl, hc1, hp1⟩ | ⟨b1, o1, c1, x1, y1, rfl, hc1, hp1, lx1, ly1, hon1⟩
    · have lt1 : b1 < w.heap.size := World.block_lt_of_cell? w _ hp1
      refine calls_briefR (F := fixN 59 2 dec8ff []) (tabQ_ok xu1_ok) run8ff Try.func8 Try.ntmps8 rfl (by decide +kernel) (by decide +kernel) (by decide +kernel) (show 2 ≤ 59 by decide) (show 2 < 4095 by decide) (fun _ => 0) (fun r => if r = 0 then (b0, o0) else (b1, o1))
        (vals := [_, _]) (fun s hs => ⟨⟨c0, hc0, rfl, show 0 < 2 by decide⟩, ⟨c1, hc1, rfl, show 1 < 2 by decide⟩, trivial⟩) (fun s hs => ⟨show 0 < 2 by decide, ⟨⟨_, hp0, rfl⟩, trivial⟩, show 1 < 2 by decide, ⟨⟨_, hp1, rfl⟩, trivial⟩, trivial⟩) (fun r l hl hr => by cases hr) (fun r _ => (by show (if r = 0 then (b0, o0) else (b1, o1)).1 < _; split; exact lt0; exact lt1)) (fun r q _ _ h => by cases h) ?_ ?_
      · intro s hs hH i bb hb
        obtain ⟨q0, q1⟩ := law8ff   hH
        have := findT_mem (show findT i dec8ff = some bb from hb)
        simp only [dec8ff, List.mem_cons, List.not_mem_nil, or_false, Prod.mk.injEq] at this
        rcases this with ⟨rfl, rfl⟩ | ⟨rfl, rfl⟩ <;> assumption
      · intro s hs hH st' β' a' w' v hv hm hag hr hbe
        have hv' : v = .bool true := hv
        exact ⟨by rw [hv'], hbe⟩
    · have lt1 : b1 < w.heap.size := World.block_lt_of_cell? w _ (hp1 0 4 rfl)
      refine calls_briefR (F := fixN 59 2 dec8fp []) (tabQ_ok xu1_ok) run8fp Try.func8 Try.ntmps8 rfl (by decide +kernel) (by decide +kernel) (by decide +kernel) (show 2 ≤ 59 by decide) (show 2 < 4095 by decide) (fun i => if i = 0 then x1 else y1) (fun r => if r = 0 then (b0, o0) else (b1, o1))
        (vals := [_, _]) (fun s hs => ⟨⟨c0, hc0, rfl, show 0 < 2 by decide⟩, ⟨c1, hc1, rfl, show 1 < 2 by decide⟩, trivial⟩) (fun s hs => ⟨show 0 < 2 by decide, ⟨⟨_, hp0, rfl⟩, trivial⟩, show 1 < 2 by decide, ptRow_row rfl hp1 (hs 0 (by decide)) (hs 1 (by decide)) lx1 ly1, trivial⟩) (fun r l hl hr => by cases hr) (fun r _ => (by show (if r = 0 then (b0, o0) else (b1, o1)).1 < _; split; exact lt0; exact lt1)) (fun r q _ _ h => by cases h) ?_ ?_
      · intro s hs hH i bb hb
        obtain ⟨q2, q3, q4, q5⟩ := law8fp (x1 := x1) (y1 := y1) lx1 ly1 hon1 (hs 0 (by decide)) (hs 1 (by decide)) hH
        have := findT_mem (show findT i dec8fp = some bb from hb)
        simp only [dec8fp, List.mem_cons, List.not_mem_nil, or_false, Prod.mk.injEq] at this
        rcases this with ⟨rfl, rfl⟩ | ⟨rfl, rfl⟩ | ⟨rfl, rfl⟩ | ⟨rfl, rfl⟩ <;> assumption
      · intro s hs hH st' β' a' w' v hv hm hag hr hbe
        have hv' : v = .bool true := hv
        exact ⟨by rw [hv'], hbe⟩
  · have lt0 : b0 < w.heap.size := World.block_lt_of_cell? w _ (hp0 0 4 rfl)
    rcases h2 with ⟨b1, o1, c1, rfl, hc1, hp1⟩ | ⟨b1, o1, c1, x1, y1, rfl, hc1, hp1, lx1, ly1, hon1⟩
    · have lt1 : b1 < w.heap.size := World.block_lt_of_cell? w _ hp1
      refine calls_briefR (F := fixN 59 2 dec8pf []) (tabQ_ok xu1_ok) run8pf Try.func8 Try.ntmps8 rfl (by decide +kernel) (by decide +kernel) (by decide +kernel) (show 2 ≤ 59 by decide) (show 2 < 4095 by decide) (fun i => if i = 0 then x0 else y0) (fun r => if r = 0 then (b0, o0) else (b1, o1))
        (vals := [_, _]) (fun s hs => ⟨⟨c0, hc0, rfl, show 0 < 2 by decide⟩, ⟨c1, hc1, rfl, show 1 < 2 by decide⟩, trivial⟩) (fun s hs => ⟨show 0 < 2 by decide, ptRow_row rfl hp0 (hs 0 (by decide)) (hs 1 (by decide)) lx0 ly0, show 1 < 2 by decide, ⟨⟨_, hp1, rfl⟩, trivial⟩, trivial⟩) (fun r l hl hr => by cases hr) (fun r _ => (by show (if r = 0 then (b0, o0) else (b1, o1)).1 < _; split; exact lt0; exact lt1)) (fun r q _ _ h => by cases h) ?_ ?_
      · intro s hs hH i bb hb
        obtain ⟨q2, q3, q5, q6, q7, q8, q9, q10, q11⟩ := law8pf (x0 := x0) (y0 := y0) lx0 ly0 hon0 (hs 0 (by decide)) (hs 1 (by decide)) hH
        have := findT_mem (show findT i dec8pf = some bb from hb)
        simp only [dec8pf, List.mem_cons, List.not_mem_nil, or_false, Prod.mk.injEq] at this
        rcases this with ⟨rfl, rfl⟩ | ⟨rfl, rfl⟩ | ⟨rfl, rfl⟩ | ⟨rfl, rfl⟩ | ⟨rfl, rfl⟩ | ⟨rfl, rfl⟩ | ⟨rfl, rfl⟩ | ⟨rfl, rfl⟩ | ⟨rfl, rfl⟩ <;> assumption
      · intro s hs hH st' β' a' w' v hv hm hag hr hbe
        have hv' : v = .bool true := hv
        exact ⟨by rw [hv'], hbe⟩
    · have lt1 : b1 < w.heap.size := World.block_lt_of_cell? w _ (hp1 0 4 rfl)
      rcases farOf_cases (addN x0 y0 x1 y1) with ⟨hfar, _⟩ | ⟨hfar, _⟩
      · obtain ⟨ex, ey⟩ := neg_of_far lx0 lx1 ly1 hon0 hon1 hfar
        refine calls_briefR (F := fixN 59 2 dec8F []) (tabQ_ok xu1_ok) run8F Try.func8 Try.ntmps8 rfl (by decide +kernel) (by decide +kernel) (by decide +kernel) (show 2 ≤ 59 by decide) (show 2 < 4095 by decide) (fun i => if i = 0 then x0 else if i = 1 then y0 else if i = 2 then x1 else y1) (fun r => if r = 0 then (b0, o0) else (b1, o1))
          (vals := [_, _]) (fun s hs => ⟨⟨c0, hc0, rfl, show 0 < 2 by decide⟩, ⟨c1, hc1, rfl, show 1 < 2 by decide⟩, trivial⟩) (fun s hs => ⟨show 0 < 2 by decide, ptRow_row rfl hp0 (hs 0 (by decide)) (hs 1 (by decide)) lx0 ly0, show 1 < 2 by decide, ptRow_row rfl hp1 (hs 2 (by decide)) (hs 3 (by decide)) lx1 ly1, trivial⟩) (fun r l hl hr => by cases hr) (fun r _ => (by show (if r = 0 then (b0, o0) else (b1, o1)).1 < _; split; exact lt0; exact lt1)) (fun r q _ _ h => by cases h) ?_ ?_
        · intro s hs hH i bb hb
          obtain ⟨q4, q5, q6, q7, q9, q10, q11, q12, q13, q14, q15, q16, q17, q18, q19, q20⟩ := law8F (x0 := x0) (y0 := y0) (x1 := x1) (y1 := y1) lx0 ly0 hon0 lx1 ly1 hon1 hfar ex ey (hs 0 (by decide)) (hs 1 (by decide)) (hs 2 (by decide)) (hs 3 (by decide)) hH
          have := findT_mem (show findT i dec8F = some bb from hb)
          simp only [dec8F, List.mem_cons, List.not_mem_nil, or_false, Prod.mk.injEq] at this
          rcases this with ⟨rfl, rfl⟩ | ⟨rfl, rfl⟩ | ⟨rfl, rfl⟩ | ⟨rfl, rfl⟩ | ⟨rfl, rfl⟩ | ⟨rfl, rfl⟩ | ⟨rfl, rfl⟩ | ⟨rfl, rfl⟩ | ⟨rfl, rfl⟩ | ⟨rfl, rfl⟩ | ⟨rfl, rfl⟩ | ⟨rfl, rfl⟩ | ⟨rfl, rfl⟩ | ⟨rfl, rfl⟩ | ⟨rfl, rfl⟩ | ⟨rfl, rfl⟩ <;> assumption
        · intro s hs hH st' β' a' w' v hv hm hag hr hbe
          have hv' : v = .bool true := hv
          exact ⟨by rw [hv'], hbe⟩
      · by_cases ex : x1 = x0
        · have ey : y1 ≠ negN y0 := fun ey => by rw [neg_far hon0 ex ey] at hfar; cases hfar
          refine calls_briefR (F := fixN 59 2 dec8N2 []) (tabQ_ok xu1_ok) run8N2 Try.func8 Try.ntmps8 rfl (by decide +kernel) (by decide +kernel) (by decide +kernel) (show 2 ≤ 59 by decide) (show 2 < 4095 by decide) (fun i => if i = 0 then x0 else if i = 1 then y0 else if i = 2 then x1 else y1) (fun r => if r = 0 then (b0, o0) else (b1, o1))
            (vals := [_, _]) (fun s hs => ⟨⟨c0, hc0, rfl, show 0 < 2 by decide⟩, ⟨c1, hc1, rfl, show 1 < 2 by decide⟩, trivial⟩) (fun s hs => ⟨show 0 < 2 by decide, ptRow_row rfl hp0 (hs 0 (by decide)) (hs 1 (by decide)) lx0 ly0, show 1 < 2 by decide, ptRow_row rfl hp1 (hs 2 (by decide)) (hs 3 (by decide)) lx1 ly1, trivial⟩) (fun r l hl hr => by cases hr) (fun r _ => (by show (if r = 0 then (b0, o0) else (b1, o1)).1 < _; split; exact lt0; exact lt1)) (fun r q _ _ h => by cases h) ?_ ?_
          · intro s hs hH i bb hb
            obtain ⟨q4, q5, q6, q7, q9, q10, q11, q12, q13, q14, q15, q16, q17, q20, q21⟩ := law8N2 (x0 := x0) (y0 := y0) (x1 := x1) (y1 := y1) lx0 ly0 hon0 lx1 ly1 hon1 hfar ex ey (hs 0 (by decide)) (hs 1 (by decide)) (hs 2 (by decide)) (hs 3 (by decide)) hH
            have := findT_mem (show findT i dec8N2 = some bb from hb)
            simp only [dec8N2, List.mem_cons, List.not_mem_nil, or_false, Prod.mk.injEq] at this
            rcases this with ⟨rfl, rfl⟩ | ⟨rfl, rfl⟩ | ⟨rfl, rfl⟩ | ⟨rfl, rfl⟩ | ⟨rfl, rfl⟩ | ⟨rfl, rfl⟩ | ⟨rfl, rfl⟩ | ⟨rfl, rfl⟩ | ⟨rfl, rfl⟩ | ⟨rfl, rfl⟩ | ⟨rfl, rfl⟩ | ⟨rfl, rfl⟩ | ⟨rfl, rfl⟩ | ⟨rfl, rfl⟩ | ⟨rfl, rfl⟩ <;> assumption
          · intro s hs hH st' β' a' w' v hv hm hag hr hbe
            have hv' : v = .bool true := hv
            exact ⟨by rw [hv'], hbe⟩
        · skip
          refine calls_briefR (F := fixN 59 2 dec8N1 []) (tabQ_ok xu1_ok) run8N1 Try.func8 Try.ntmps8 rfl (by decide +kernel) (by decide +kernel) (by decide +kernel) (show 2 ≤ 59 by decide) (show 2 < 4095 by decide) (fun i => if i = 0 then x0 else if i = 1 then y0 else if i = 2 then x1 else y1) (fun r => if r = 0 then (b0, o0) else (b1, o1))
            (vals := [_, _]) (fun s hs => ⟨⟨c0, hc0, rfl, show 0 < 2 by decide⟩, ⟨c1, hc1, rfl, show 1 < 2 by decide⟩, trivial⟩) (fun s hs => ⟨show 0 < 2 by decide, ptRow_row rfl hp0 (hs 0 (by decide)) (hs 1 (by decide)) lx0 ly0, show 1 < 2 by decide, ptRow_row rfl hp1 (hs 2 (by decide)) (hs 3 (by decide)) lx1 ly1, trivial⟩) (fun r l hl hr => by cases hr) (fun r _ => (by show (if r = 0 then (b0, o0) else (b1, o1)).1 < _; split; exact lt0; exact lt1)) (fun r q _ _ h => by cases h) ?_ ?_
          · intro s hs hH i bb hb
            obtain ⟨q4, q5, q6, q7, q9, q10, q11, q12, q13, q14, q15, q16, q17, q20⟩ := law8N1 (x0 := x0) (y0 := y0) (x1 := x1) (y1 := y1) lx0 ly0 hon0 lx1 ly1 hon1 hfar ex (hs 0 (by decide)) (hs 1 (by decide)) (hs 2 (by decide)) (hs 3 (by decide)) hH
            have := findT_mem (show findT i dec8N1 = some bb from hb)
            simp only [dec8N1, List.mem_cons, List.not_mem_nil, or_false, Prod.mk.injEq] at this
            rcases this with ⟨rfl, rfl⟩ | ⟨rfl, rfl⟩ | ⟨rfl, rfl⟩ | ⟨rfl, rfl⟩ | ⟨rfl, rfl⟩ | ⟨rfl, rfl⟩ | ⟨rfl, rfl⟩ | ⟨rfl, rfl⟩ | ⟨rfl, rfl⟩ | ⟨rfl, rfl⟩ | ⟨rfl, rfl⟩ | ⟨rfl, rfl⟩ | ⟨rfl, rfl⟩ | ⟨rfl, rfl⟩ <;> assumption
          · intro s hs hH st' β' a' w' v hv hm hag hr hbe
            have hv' : v = .bool true := hv
            exact ⟨by rw [hv'], hbe⟩
theorem law8_all {w : World} {v v' : Value} {b o n u d f b' o' n' u' d' f' : Nat} (h : Sl w v b o n u d f) (h' : Sl w v' b' o' n' u' d' f') : Law 8 w [v, v'] := by
  by_cases hb : 2147483647 < n ∨ 2147483647 < n' ∨ f = 0 ∨ f' = 0
  · exact law_twoT (tabQ_ok xu1_ok) run8b1 run8b2 run8b3 run8b4 Try.func8 Try.ntmps8 (by decide) h h' hb
  · have hf : f = 1 := by have := h.flag.le; omega
    have hf' : f' = 1 := by have := h'.flag.le; omega
    subst hf
    subst hf'
    exact law8_good h.point h'.point
end P224
