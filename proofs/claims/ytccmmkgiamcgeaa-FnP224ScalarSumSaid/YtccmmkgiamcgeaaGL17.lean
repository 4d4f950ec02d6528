/- Law ScalarSum. PRINTED BY A PROGRAM OF MY OWN (gen/mkL17.py). -/
import Derived.Test.YtccmmkgiamcgeaaGY4
set_option linter.all false
namespace P224
open Go Go.RowKit Go.Proofs
set_option maxRecDepth 100000
set_option linter.unusedVariables false
theorem run17b1 : briefR (tabZ xt2) Try.f17 [] (runF (tabZ xt2) (fixN 39 1 [(60, true)] [(0, (0, 3))]) 3000 Try.f17 (startSt (.one (.sy 0 0) :: [.agg (numsFrom .u8 4 28), .agg (numsFrom .u8 32 28)]) [] 60 1)) = some ⟨.ret, 61, [lenE 0], [], [.one (.lit (.bool true))], []⟩ := by kernel_rfl
theorem run17b2 : briefR (tabZ xt2) Try.f17 [] (runF (tabZ xt2) (fixN 39 1 [(60, false), (93, true)] [(0, (0, 3))]) 3000 Try.f17 (startSt (.one (.sy 0 0) :: [.agg (numsFrom .u8 4 28), .agg (numsFrom .u8 32 28)]) [] 60 1)) = some ⟨.ret, 94, moreF 60 (vsF 4) (vsF 32), [], [.one (.lit (.bool true))], []⟩ := by kernel_rfl
theorem run17b3 : briefR (tabZ xt2) Try.f17 [] (runF (tabZ xt2) (fixN 39 1 [(60, false), (93, false), (3, false), (94, true)] [(0, (0, 3))]) 3000 Try.f17 (startSt (.one (.sy 0 0) :: [.agg (numsFrom .u8 4 28), .agg (numsFrom .u8 32 28)]) [] 60 1)) = some ⟨.ret, 95, .feq (.v 3) (.c 0) :: moreF 60 (vsF 4) (vsF 32), [], [.one (.lit (.bool true))], []⟩ := by kernel_rfl
def ex17f : List Ex := [
.op 19 [.c 0, .c 0],
.op 2 (vsF 28),
.op 2 (vsF 0),
.op 2 (vsF 61),
.feq (.v 60) (.c 0),
.op 32 [(.v 59), (.c 0)],
.op 32 [(.v 59), (.c 1)],
.op 32 [(.v 59), (.c 2)],
.op 32 [(.v 59), (.c 3)],
.op 32 [(.v 59), (.c 4)],
.op 32 [(.v 59), (.c 5)],
.op 32 [(.v 59), (.c 6)],
.op 32 [(.v 59), (.c 7)],
.op 32 [(.v 59), (.c 8)],
.op 32 [(.v 59), (.c 9)],
.op 32 [(.v 59), (.c 10)],
.op 32 [(.v 59), (.c 11)],
.op 32 [(.v 59), (.c 12)],
.op 32 [(.v 59), (.c 13)],
.op 32 [(.v 59), (.c 14)],
.op 32 [(.v 59), (.c 15)],
.op 32 [(.v 59), (.c 16)],
.op 32 [(.v 59), (.c 17)],
.op 32 [(.v 59), (.c 18)],
.op 32 [(.v 59), (.c 19)],
.op 32 [(.v 59), (.c 20)],
.op 32 [(.v 59), (.c 21)],
.op 32 [(.v 59), (.c 22)],
.op 32 [(.v 59), (.c 23)],
.op 32 [(.v 59), (.c 24)],
.op 32 [(.v 59), (.c 25)],
.op 32 [(.v 59), (.c 26)],
.op 32 [(.v 59), (.c 27)],
.op 31 [(.v 57), (.v 58)],
.op 30 [(.v 57), (.v 58)],
.op 2 (vsF 28),
.op 2 (vsF 0)]
def dec17f : List (Nat × Bool) := [(60, true), (89, false), (93, true)]
def st17f : St := startSt [.one (.sv 0 0 1 56), .agg (numsFrom .u8 0 28), .agg (numsFrom .u8 28 28)] [(0, [.lit (.int .u8 0)])] 57 1
def br17f : BriefR := ⟨.ret, 94, ex17f, [], [.one (.lit (.bool true))], []⟩
theorem run17f : briefR (tabZ xt2) Try.f17 [] (runF (tabZ xt2) (fixN 39 1 dec17f []) 3000 Try.f17 st17f) = some br17f := by kernel_rfl
theorem law17f {s : Nums}  {c0 : Nat} {K0 : Nat} {K1 : Nat} {S : Nat} (hS : (K0 + K1) % 2 ^ 224 = S) (lS : S < 2 ^ 224) (hlt : K0 + K1 < 2 ^ 224) (q56 : s 56 = c0) (qK0 : ofBytes ((List.range 28).map fun i => s (0 + i)) = K0) (qK1 : ofBytes ((List.range 28).map fun i => s (28 + i)) = K1)  (h : Holds s 94 ex17f) : s 60 = 1 ∧ s 89 = 0 ∧ s 93 = 1 := by
  obtain ⟨h93, h92, h91, h90, h89, h88, h87, h86, h85, h84, h83, h82, h81, h80, h79, h78, h77, h76, h75, h74, h73, h72, h71, h70, h69, h68, h67, h66, h65, h64, h63, h62, h61, h60, h59, h58, h57, _⟩ := h
  have q57 : s 57 = K0 := (show s 57 = ofBytes ((List.range 28).map fun i => s (0 + i)) from h57).trans qK0
  have q58 : s 58 = K1 := (show s 58 = ofBytes ((List.range 28).map fun i => s (28 + i)) from h58).trans qK1
  have q59 : s 59 = S := (show s 59 = (s 57 + s 58) % 2 ^ 224 from h59).trans (by rw [q57, q58]; exact hS)
  have q60 : s 60 = 1 := (show s 60 = if s 57 + s 58 < 2 ^ 224 then 1 else 0 from h60).trans (if_pos (by rw [q57, q58]; exact hlt))
  have q89 : s 89 = 0 := (show s 89 = if s 60 = 0 then 1 else 0 from h89).trans (if_neg (by rw [q60]; decide))
  have B61 : ∀ i, i < 28 → s (61 + i) = by8 (27 - i) (s 59) := fun i hi => by
    rcases cases28 hi with rfl | rfl | rfl | rfl | rfl | rfl | rfl | rfl | rfl | rfl | rfl | rfl | rfl | rfl | rfl | rfl | rfl | rfl | rfl | rfl | rfl | rfl | rfl | rfl | rfl | rfl | rfl | rfl
    · exact h61
    · exact h62
    · exact h63
    · exact h64
    · exact h65
    · exact h66
    · exact h67
    · exact h68
    · exact h69
    · exact h70
    · exact h71
    · exact h72
    · exact h73
    · exact h74
    · exact h75
    · exact h76
    · exact h77
    · exact h78
    · exact h79
    · exact h80
    · exact h81
    · exact h82
    · exact h83
    · exact h84
    · exact h85
    · exact h86
    · exact h87
    · exact h88
  have q90 : s 90 = S := (show s 90 = ofBytes ((List.range 28).map fun i => s (61 + i)) from h90).trans ((bytes_back28 B61 (by rw [q59]; exact lS)).trans q59)
  have q91 : s 91 = K0 := (show s 91 = ofBytes ((List.range 28).map fun i => s (0 + i)) from h91).trans qK0
  have q92 : s 92 = K1 := (show s 92 = ofBytes ((List.range 28).map fun i => s (28 + i)) from h92).trans qK1
  have q93 : s 93 = 1 := (show s 93 = opVal 19 ([0] ++ [0]) from h93).trans (opVal_19 [0] [0] rfl)
  exact ⟨q60, q89, q93⟩
def ex17a : List Ex := [
.op 19 [.c 0, .c 0],
.op 25 [(.v 0), (.v 1), (.v 101)],
.op 2 (vsF 30),
.op 20 [(.v 0), (.v 1)],
.op 25 [(.v 0), (.v 1), (.v 98)],
.op 2 (vsF 2),
.op 20 [(.v 0), (.v 1)],
.op 25 [(.v 0), (.v 1), (.v 95)],
.op 2 (vsF 63),
.op 20 [(.v 0), (.v 1)],
.feq (.v 92) (.c 0),
.op 20 [(.v 0), (.v 1)],
.feq (.v 62) (.c 0),
.op 32 [(.v 61), (.c 0)],
.op 32 [(.v 61), (.c 1)],
.op 32 [(.v 61), (.c 2)],
.op 32 [(.v 61), (.c 3)],
.op 32 [(.v 61), (.c 4)],
.op 32 [(.v 61), (.c 5)],
.op 32 [(.v 61), (.c 6)],
.op 32 [(.v 61), (.c 7)],
.op 32 [(.v 61), (.c 8)],
.op 32 [(.v 61), (.c 9)],
.op 32 [(.v 61), (.c 10)],
.op 32 [(.v 61), (.c 11)],
.op 32 [(.v 61), (.c 12)],
.op 32 [(.v 61), (.c 13)],
.op 32 [(.v 61), (.c 14)],
.op 32 [(.v 61), (.c 15)],
.op 32 [(.v 61), (.c 16)],
.op 32 [(.v 61), (.c 17)],
.op 32 [(.v 61), (.c 18)],
.op 32 [(.v 61), (.c 19)],
.op 32 [(.v 61), (.c 20)],
.op 32 [(.v 61), (.c 21)],
.op 32 [(.v 61), (.c 22)],
.op 32 [(.v 61), (.c 23)],
.op 32 [(.v 61), (.c 24)],
.op 32 [(.v 61), (.c 25)],
.op 32 [(.v 61), (.c 26)],
.op 32 [(.v 61), (.c 27)],
.op 31 [(.v 59), (.v 60)],
.op 30 [(.v 59), (.v 60)],
.op 2 (vsF 30),
.op 2 (vsF 2)]
def dec17a : List (Nat × Bool) := [(62, true), (91, false), (92, true), (93, false), (94, true), (96, true), (97, true), (99, true), (100, true), (102, true), (103, true)]
def st17a : St := startSt [.one (.sv 0 0 57 58), .agg (numsFrom .u8 2 28), .agg (numsFrom .u8 30 28)] [(0, ptRow 0 1)] 59 1
def br17a : BriefR := ⟨.ret, 104, ex17a, [], [.one (.lit (.bool true))], []⟩
theorem run17a : briefR (tabZ xt2) Try.f17 [] (runF (tabZ xt2) (fixN 39 1 dec17a []) 3000 Try.f17 st17a) = some br17a := by kernel_rfl
theorem law17a {s : Nums}  {c0 : Nat} {K0 : Nat} {K1 : Nat} {x0 y0 : Nat} (lx0 : x0 < pq) (ly0 : y0 < pq) (hon0 : onN x0 y0 = 1) {S : Nat} (hS : (K0 + K1) % 2 ^ 224 = S) (lS : S < 2 ^ 224) (hlt : K0 + K1 < 2 ^ 224) (f1 : farOf (mulN x0 y0 S) = 1) (f2 : farOf (mulN x0 y0 K0) = 1) (f3 : farOf (mulN x0 y0 K1) = 1) (q0 : s 0 = x0) (q1 : s 1 = y0) (q58 : s 58 = c0) (qK0 : ofBytes ((List.range 28).map fun i => s (2 + i)) = K0) (qK1 : ofBytes ((List.range 28).map fun i => s (30 + i)) = K1)  (h : Holds s 104 ex17a) : s 62 = 1 ∧ s 91 = 0 ∧ s 92 = 1 ∧ s 93 = 0 ∧ s 94 = 1 ∧ s 96 = 1 ∧ s 97 = 1 ∧ s 99 = 1 ∧ s 100 = 1 ∧ s 102 = 1 ∧ s 103 = 1 := by
  obtain ⟨h103, h102, h101, h100, h99, h98, h97, h96, h95, h94, h93, h92, h91, h90, h89, h88, h87, h86, h85, h84, h83, h82, h81, h80, h79, h78, h77, h76, h75, h74, h73, h72, h71, h70, h69, h68, h67, h66, h65, h64, h63, h62, h61, h60, h59, _⟩ := h
  have q59 : s 59 = K0 := (show s 59 = ofBytes ((List.range 28).map fun i => s (2 + i)) from h59).trans qK0
  have q60 : s 60 = K1 := (show s 60 = ofBytes ((List.range 28).map fun i => s (30 + i)) from h60).trans qK1
  have q61 : s 61 = S := (show s 61 = (s 59 + s 60) % 2 ^ 224 from h61).trans (by rw [q59, q60]; exact hS)
  have q62 : s 62 = 1 := (show s 62 = if s 59 + s 60 < 2 ^ 224 then 1 else 0 from h62).trans (if_pos (by rw [q59, q60]; exact hlt))
  have q91 : s 91 = 0 := (show s 91 = if s 62 = 0 then 1 else 0 from h91).trans (if_neg (by rw [q62]; decide))
  have q92 : s 92 = 1 := ((show s 92 = onN (s 0) (s 1) from h92).trans (by rw [q0, q1])).trans hon0
  have q93 : s 93 = 0 := (show s 93 = if s 92 = 0 then 1 else 0 from h93).trans (if_neg (by rw [q92]; decide))
  have q94 : s 94 = 1 := ((show s 94 = onN (s 0) (s 1) from h94).trans (by rw [q0, q1])).trans hon0
  have B63 : ∀ i, i < 28 → s (63 + i) = by8 (27 - i) (s 61) := fun i hi => by
    rcases cases28 hi with rfl | rfl | rfl | rfl | rfl | rfl | rfl | rfl | rfl | rfl | rfl | rfl | rfl | rfl | rfl | rfl | rfl | rfl | rfl | rfl | rfl | rfl | rfl | rfl | rfl | rfl | rfl | rfl
    · exact h63
    · exact h64
    · exact h65
    · exact h66
    · exact h67
    · exact h68
    · exact h69
    · exact h70
    · exact h71
    · exact h72
    · exact h73
    · exact h74
    · exact h75
    · exact h76
    · exact h77
    · exact h78
    · exact h79
    · exact h80
    · exact h81
    · exact h82
    · exact h83
    · exact h84
    · exact h85
    · exact h86
    · exact h87
    · exact h88
    · exact h89
    · exact h90
  have q95 : s 95 = S := (show s 95 = ofBytes ((List.range 28).map fun i => s (63 + i)) from h95).trans ((bytes_back28 B63 (by rw [q61]; exact lS)).trans q61)
  have q96 : s 96 = 1 := ((show s 96 = farOf (mulN (s 0) (s 1) (s 95)) from h96).trans (by rw [q0, q1, q95])).trans f1
  have q97 : s 97 = 1 := ((show s 97 = onN (s 0) (s 1) from h97).trans (by rw [q0, q1])).trans hon0
  have q98 : s 98 = K0 := (show s 98 = ofBytes ((List.range 28).map fun i => s (2 + i)) from h98).trans qK0
  have q99 : s 99 = 1 := ((show s 99 = farOf (mulN (s 0) (s 1) (s 98)) from h99).trans (by rw [q0, q1, q98])).trans f2
  have q100 : s 100 = 1 := ((show s 100 = onN (s 0) (s 1) from h100).trans (by rw [q0, q1])).trans hon0
  have q101 : s 101 = K1 := (show s 101 = ofBytes ((List.range 28).map fun i => s (30 + i)) from h101).trans qK1
  have q102 : s 102 = 1 := ((show s 102 = farOf (mulN (s 0) (s 1) (s 101)) from h102).trans (by rw [q0, q1, q101])).trans f3
  have q103 : s 103 = 1 := (show s 103 = opVal 19 ([0] ++ [0]) from h103).trans (opVal_19 [0] [0] rfl)
  exact ⟨q62, q91, q92, q93, q94, q96, q97, q99, q100, q102, q103⟩
def ex17b : List Ex := [
.op 19 [.c 0, .c 0],
.op 21 [(.v 100), (.v 101), (.v 105), (.v 106)],
.op 20 [(.v 105), (.v 106)],
.op 20 [(.v 100), (.v 101)],
.op 27 [(.v 0), (.v 1), (.v 103)],
.op 26 [(.v 0), (.v 1), (.v 103)],
.op 25 [(.v 0), (.v 1), (.v 103)],
.op 2 (vsF 30),
.op 20 [(.v 0), (.v 1)],
.op 27 [(.v 0), (.v 1), (.v 98)],
.op 26 [(.v 0), (.v 1), (.v 98)],
.op 25 [(.v 0), (.v 1), (.v 98)],
.op 2 (vsF 2),
.op 20 [(.v 0), (.v 1)],
.op 25 [(.v 0), (.v 1), (.v 95)],
.op 2 (vsF 63),
.op 20 [(.v 0), (.v 1)],
.feq (.v 92) (.c 0),
.op 20 [(.v 0), (.v 1)],
.feq (.v 62) (.c 0),
.op 32 [(.v 61), (.c 0)],
.op 32 [(.v 61), (.c 1)],
.op 32 [(.v 61), (.c 2)],
.op 32 [(.v 61), (.c 3)],
.op 32 [(.v 61), (.c 4)],
.op 32 [(.v 61), (.c 5)],
.op 32 [(.v 61), (.c 6)],
.op 32 [(.v 61), (.c 7)],
.op 32 [(.v 61), (.c 8)],
.op 32 [(.v 61), (.c 9)],
.op 32 [(.v 61), (.c 10)],
.op 32 [(.v 61), (.c 11)],
.op 32 [(.v 61), (.c 12)],
.op 32 [(.v 61), (.c 13)],
.op 32 [(.v 61), (.c 14)],
.op 32 [(.v 61), (.c 15)],
.op 32 [(.v 61), (.c 16)],
.op 32 [(.v 61), (.c 17)],
.op 32 [(.v 61), (.c 18)],
.op 32 [(.v 61), (.c 19)],
.op 32 [(.v 61), (.c 20)],
.op 32 [(.v 61), (.c 21)],
.op 32 [(.v 61), (.c 22)],
.op 32 [(.v 61), (.c 23)],
.op 32 [(.v 61), (.c 24)],
.op 32 [(.v 61), (.c 25)],
.op 32 [(.v 61), (.c 26)],
.op 32 [(.v 61), (.c 27)],
.op 31 [(.v 59), (.v 60)],
.op 30 [(.v 59), (.v 60)],
.op 2 (vsF 30),
.op 2 (vsF 2)]
def dec17b : List (Nat × Bool) := [(62, true), (91, false), (92, true), (93, false), (94, true), (96, true), (97, true), (99, false), (102, true), (104, false), (107, true), (108, true), (109, true), (110, true)]
def st17b : St := startSt [.one (.sv 0 0 57 58), .agg (numsFrom .u8 2 28), .agg (numsFrom .u8 30 28)] [(0, ptRow 0 1)] 59 1
def br17b : BriefR := ⟨.ret, 111, ex17b, [], [.one (.lit (.bool true))], []⟩
theorem run17b : briefR (tabZ xt2) Try.f17 [] (runF (tabZ xt2) (fixN 39 1 dec17b []) 3000 Try.f17 st17b) = some br17b := by kernel_rfl
theorem law17b {s : Nums}  {c0 : Nat} {K0 : Nat} {K1 : Nat} {x0 y0 : Nat} (lx0 : x0 < pq) (ly0 : y0 < pq) (hon0 : onN x0 y0 = 1) {S : Nat} (hS : (K0 + K1) % 2 ^ 224 = S) (lS : S < 2 ^ 224) (hlt : K0 + K1 < 2 ^ 224) {X2 Y2 : Nat} (lX2 : X2 < pq) (lY2 : Y2 < pq) (on2 : onN X2 Y2 = 1) {X3 Y3 : Nat} (lX3 : X3 < pq) (lY3 : Y3 < pq) (on3 : onN X3 Y3 = 1) (f1 : farOf (mulN x0 y0 S) = 1) (f2 : farOf (mulN x0 y0 K0) = 0) (gx2 : xOf (mulN x0 y0 K0) = X2) (gy2 : yOf (mulN x0 y0 K0) = Y2) (f3 : farOf (mulN x0 y0 K1) = 0) (gx3 : xOf (mulN x0 y0 K1) = X3) (gy3 : yOf (mulN x0 y0 K1) = Y3) (f5 : farOf (addN X2 Y2 X3 Y3) = 1) (q0 : s 0 = x0) (q1 : s 1 = y0) (q58 : s 58 = c0) (qK0 : ofBytes ((List.range 28).map fun i => s (2 + i)) = K0) (qK1 : ofBytes ((List.range 28).map fun i => s (30 + i)) = K1)  (h : Holds s 111 ex17b) : s 62 = 1 ∧ s 91 = 0 ∧ s 92 = 1 ∧ s 93 = 0 ∧ s 94 = 1 ∧ s 96 = 1 ∧ s 97 = 1 ∧ s 99 = 0 ∧ s 102 = 1 ∧ s 104 = 0 ∧ s 107 = 1 ∧ s 108 = 1 ∧ s 109 = 1 ∧ s 110 = 1 := by
  obtain ⟨h110, h109, h108, h107, h106, h105, h104, h103, h102, h101, h100, h99, h98, h97, h96, h95, h94, h93, h92, h91, h90, h89, h88, h87, h86, h85, h84, h83, h82, h81, h80, h79, h78, h77, h76, h75, h74, h73, h72, h71, h70, h69, h68, h67, h66, h65, h64, h63, h62, h61, h60, h59, _⟩ := h
  have q59 : s 59 = K0 := (show s 59 = ofBytes ((List.range 28).map fun i => s (2 + i)) from h59).trans qK0
  have q60 : s 60 = K1 := (show s 60 = ofBytes ((List.range 28).map fun i => s (30 + i)) from h60).trans qK1
  have q61 : s 61 = S := (show s 61 = (s 59 + s 60) % 2 ^ 224 from h61).trans (by rw [q59, q60]; exact hS)
  have q62 : s 62 = 1 := (show s 62 = if s 59 + s 60 < 2 ^ 224 then 1 else 0 from h62).trans (if_pos (by rw [q59, q60]; exact hlt))
  have q91 : s 91 = 0 := (show s 91 = if s 62 = 0 then 1 else 0 from h91).trans (if_neg (by rw [q62]; decide))
  have q92 : s 92 = 1 := ((show s 92 = onN (s 0) (s 1) from h92).trans (by rw [q0, q1])).trans hon0
  have q93 : s 93 = 0 := (show s 93 = if s 92 = 0 then 1 else 0 from h93).trans (if_neg (by rw [q92]; decide))
  have q94 : s 94 = 1 := ((show s 94 = onN (s 0) (s 1) from h94).trans (by rw [q0, q1])).trans hon0
  have B63 : ∀ i, i < 28 → s (63 + i) = by8 (27 - i) (s 61) := fun i hi => by
    rcases cases28 hi with rfl | rfl | rfl | rfl | rfl | rfl | rfl | rfl | rfl | rfl | rfl | rfl | rfl | rfl | rfl | rfl | rfl | rfl | rfl | rfl | rfl | rfl | rfl | rfl | rfl | rfl | rfl | rfl
    · exact h63
    · exact h64
    · exact h65
    · exact h66
    · exact h67
    · exact h68
    · exact h69
    · exact h70
    · exact h71
    · exact h72
    · exact h73
    · exact h74
    · exact h75
    · exact h76
    · exact h77
    · exact h78
    · exact h79
    · exact h80
    · exact h81
    · exact h82
    · exact h83
    · exact h84
    · exact h85
    · exact h86
    · exact h87
    · exact h88
    · exact h89
    · exact h90
  have q95 : s 95 = S := (show s 95 = ofBytes ((List.range 28).map fun i => s (63 + i)) from h95).trans ((bytes_back28 B63 (by rw [q61]; exact lS)).trans q61)
  have q96 : s 96 = 1 := ((show s 96 = farOf (mulN (s 0) (s 1) (s 95)) from h96).trans (by rw [q0, q1, q95])).trans f1
  have q97 : s 97 = 1 := ((show s 97 = onN (s 0) (s 1) from h97).trans (by rw [q0, q1])).trans hon0
  have q98 : s 98 = K0 := (show s 98 = ofBytes ((List.range 28).map fun i => s (2 + i)) from h98).trans qK0
  have q99 : s 99 = 0 := ((show s 99 = farOf (mulN (s 0) (s 1) (s 98)) from h99).trans (by rw [q0, q1, q98])).trans f2
  have q100 : s 100 = X2 := ((show s 100 = xOf (mulN (s 0) (s 1) (s 98)) from h100).trans (by rw [q0, q1, q98])).trans gx2
  have q101 : s 101 = Y2 := ((show s 101 = yOf (mulN (s 0) (s 1) (s 98)) from h101).trans (by rw [q0, q1, q98])).trans gy2
  have q102 : s 102 = 1 := ((show s 102 = onN (s 0) (s 1) from h102).trans (by rw [q0, q1])).trans hon0
  have q103 : s 103 = K1 := (show s 103 = ofBytes ((List.range 28).map fun i => s (30 + i)) from h103).trans qK1
  have q104 : s 104 = 0 := ((show s 104 = farOf (mulN (s 0) (s 1) (s 103)) from h104).trans (by rw [q0, q1, q103])).trans f3
  have q105 : s 105 = X3 := ((show s 105 = xOf (mulN (s 0) (s 1) (s 103)) from h105).trans (by rw [q0, q1, q103])).trans gx3
  have q106 : s 106 = Y3 := ((show s 106 = yOf (mulN (s 0) (s 1) (s 103)) from h106).trans (by rw [q0, q1, q103])).trans gy3
  have q107 : s 107 = 1 := ((show s 107 = onN (s 100) (s 101) from h107).trans (by rw [q100, q101])).trans on2
  have q108 : s 108 = 1 := ((show s 108 = onN (s 105) (s 106) from h108).trans (by rw [q105, q106])).trans on3
  have q109 : s 109 = 1 := ((show s 109 = farOf (addN (s 100) (s 101) (s 105) (s 106)) from h109).trans (by rw [q100, q101, q105, q106])).trans f5
  have q110 : s 110 = 1 := (show s 110 = opVal 19 ([0] ++ [0]) from h110).trans (opVal_19 [0] [0] rfl)
  exact ⟨q62, q91, q92, q93, q94, q96, q97, q99, q102, q104, q107, q108, q109, q110⟩
def ex17k : List Ex := [
.feq (.v 109) (.c 0),
.op 20 [(.v 97), (.v 98)],
.op 19 ((Wd.c 4 :: (bs28 97 ++ bs28 98)) ++ (Wd.c 4 :: (bs28 105 ++ bs28 106))),
.op 20 [(.v 105), (.v 106)],
.op 27 [(.v 0), (.v 1), (.v 103)],
.op 26 [(.v 0), (.v 1), (.v 103)],
.op 25 [(.v 0), (.v 1), (.v 103)],
.op 2 (vsF 30),
.op 20 [(.v 0), (.v 1)],
.op 25 [(.v 0), (.v 1), (.v 100)],
.op 2 (vsF 2),
.op 20 [(.v 0), (.v 1)],
.op 27 [(.v 0), (.v 1), (.v 95)],
.op 26 [(.v 0), (.v 1), (.v 95)],
.op 25 [(.v 0), (.v 1), (.v 95)],
.op 2 (vsF 63),
.op 20 [(.v 0), (.v 1)],
.feq (.v 92) (.c 0),
.op 20 [(.v 0), (.v 1)],
.feq (.v 62) (.c 0),
.op 32 [(.v 61), (.c 0)],
.op 32 [(.v 61), (.c 1)],
.op 32 [(.v 61), (.c 2)],
.op 32 [(.v 61), (.c 3)],
.op 32 [(.v 61), (.c 4)],
.op 32 [(.v 61), (.c 5)],
.op 32 [(.v 61), (.c 6)],
.op 32 [(.v 61), (.c 7)],
.op 32 [(.v 61), (.c 8)],
.op 32 [(.v 61), (.c 9)],
.op 32 [(.v 61), (.c 10)],
.op 32 [(.v 61), (.c 11)],
.op 32 [(.v 61), (.c 12)],
.op 32 [(.v 61), (.c 13)],
.op 32 [(.v 61), (.c 14)],
.op 32 [(.v 61), (.c 15)],
.op 32 [(.v 61), (.c 16)],
.op 32 [(.v 61), (.c 17)],
.op 32 [(.v 61), (.c 18)],
.op 32 [(.v 61), (.c 19)],
.op 32 [(.v 61), (.c 20)],
.op 32 [(.v 61), (.c 21)],
.op 32 [(.v 61), (.c 22)],
.op 32 [(.v 61), (.c 23)],
.op 32 [(.v 61), (.c 24)],
.op 32 [(.v 61), (.c 25)],
.op 32 [(.v 61), (.c 26)],
.op 32 [(.v 61), (.c 27)],
.op 31 [(.v 59), (.v 60)],
.op 30 [(.v 59), (.v 60)],
.op 2 (vsF 30),
.op 2 (vsF 2)]
def dec17k : List (Nat × Bool) := [(62, true), (91, false), (92, true), (93, false), (94, true), (96, false), (99, true), (101, true), (102, true), (104, false), (107, true), (108, true), (109, true), (110, false)]
def st17k : St := startSt [.one (.sv 0 0 57 58), .agg (numsFrom .u8 2 28), .agg (numsFrom .u8 30 28)] [(0, ptRow 0 1)] 59 1
def br17k : BriefR := ⟨.ret, 111, ex17k, [], [.one (.lit (.bool true))], []⟩
theorem run17k : briefR (tabZ xt2) Try.f17 [] (runF (tabZ xt2) (fixN 39 1 dec17k []) 3000 Try.f17 st17k) = some br17k := by kernel_rfl
theorem law17k {s : Nums}  {c0 : Nat} {K0 : Nat} {K1 : Nat} {x0 y0 : Nat} (lx0 : x0 < pq) (ly0 : y0 < pq) (hon0 : onN x0 y0 = 1) {S : Nat} (hS : (K0 + K1) % 2 ^ 224 = S) (lS : S < 2 ^ 224) (hlt : K0 + K1 < 2 ^ 224) {X4 Y4 : Nat} (lX4 : X4 < pq) (lY4 : Y4 < pq) (on4 : onN X4 Y4 = 1) (f1 : farOf (mulN x0 y0 S) = 0) (gx1 : xOf (mulN x0 y0 S) = X4) (gy1 : yOf (mulN x0 y0 S) = Y4) (f2 : farOf (mulN x0 y0 K0) = 1) (f3 : farOf (mulN x0 y0 K1) = 0) (gx3 : xOf (mulN x0 y0 K1) = X4) (gy3 : yOf (mulN x0 y0 K1) = Y4) (q0 : s 0 = x0) (q1 : s 1 = y0) (q58 : s 58 = c0) (qK0 : ofBytes ((List.range 28).map fun i => s (2 + i)) = K0) (qK1 : ofBytes ((List.range 28).map fun i => s (30 + i)) = K1)  (h : Holds s 111 ex17k) : s 62 = 1 ∧ s 91 = 0 ∧ s 92 = 1 ∧ s 93 = 0 ∧ s 94 = 1 ∧ s 96 = 0 ∧ s 99 = 1 ∧ s 101 = 1 ∧ s 102 = 1 ∧ s 104 = 0 ∧ s 107 = 1 ∧ s 108 = 1 ∧ s 109 = 1 ∧ s 110 = 0 := by
  obtain ⟨h110, h109, h108, h107, h106, h105, h104, h103, h102, h101, h100, h99, h98, h97, h96, h95, h94, h93, h92, h91, h90, h89, h88, h87, h86, h85, h84, h83, h82, h81, h80, h79, h78, h77, h76, h75, h74, h73, h72, h71, h70, h69, h68, h67, h66, h65, h64, h63, h62, h61, h60, h59, _⟩ := h
  have q59 : s 59 = K0 := (show s 59 = ofBytes ((List.range 28).map fun i => s (2 + i)) from h59).trans qK0
  have q60 : s 60 = K1 := (show s 60 = ofBytes ((List.range 28).map fun i => s (30 + i)) from h60).trans qK1
  have q61 : s 61 = S := (show s 61 = (s 59 + s 60) % 2 ^ 224 from h61).trans (by rw [q59, q60]; exact hS)
  have q62 : s 62 = 1 := (show s 62 = if s 59 + s 60 < 2 ^ 224 then 1 else 0 from h62).trans (if_pos (by rw [q59, q60]; exact hlt))
  have q91 : s 91 = 0 := (show s 91 = if s 62 = 0 then 1 else 0 from h91).trans (if_neg (by rw [q62]; decide))
  have q92 : s 92 = 1 := ((show s 92 = onN (s 0) (s 1) from h92).trans (by rw [q0, q1])).trans hon0
  have q93 : s 93 = 0 := (show s 93 = if s 92 = 0 then 1 else 0 from h93).trans (if_neg (by rw [q92]; decide))
  have q94 : s 94 = 1 := ((show s 94 = onN (s 0) (s 1) from h94).trans (by rw [q0, q1])).trans hon0
  have B63 : ∀ i, i < 28 → s (63 + i) = by8 (27 - i) (s 61) := fun i hi => by
    rcases cases28 hi with rfl | rfl | rfl | rfl | rfl | rfl | rfl | rfl | rfl | rfl | rfl | rfl | rfl | rfl | rfl | rfl | rfl | rfl | rfl | rfl | rfl | rfl | rfl | rfl | rfl | rfl | rfl | rfl
    · exact h63
    · exact h64
    · exact h65
    · exact h66
    · exact h67
    · exact h68
    · exact h69
    · exact h70
    · exact h71
    · exact h72
    · exact h73
    · exact h74
    · exact h75
    · exact h76
    · exact h77
    · exact h78
    · exact h79
    · exact h80
    · exact h81
    · exact h82
    · exact h83
    · exact h84
    · exact h85
    · exact h86
    · exact h87
    · exact h88
    · exact h89
    · exact h90
  have q95 : s 95 = S := (show s 95 = ofBytes ((List.range 28).map fun i => s (63 + i)) from h95).trans ((bytes_back28 B63 (by rw [q61]; exact lS)).trans q61)
  have q96 : s 96 = 0 := ((show s 96 = farOf (mulN (s 0) (s 1) (s 95)) from h96).trans (by rw [q0, q1, q95])).trans f1
  have q97 : s 97 = X4 := ((show s 97 = xOf (mulN (s 0) (s 1) (s 95)) from h97).trans (by rw [q0, q1, q95])).trans gx1
  have q98 : s 98 = Y4 := ((show s 98 = yOf (mulN (s 0) (s 1) (s 95)) from h98).trans (by rw [q0, q1, q95])).trans gy1
  have q99 : s 99 = 1 := ((show s 99 = onN (s 0) (s 1) from h99).trans (by rw [q0, q1])).trans hon0
  have q100 : s 100 = K0 := (show s 100 = ofBytes ((List.range 28).map fun i => s (2 + i)) from h100).trans qK0
  have q101 : s 101 = 1 := ((show s 101 = farOf (mulN (s 0) (s 1) (s 100)) from h101).trans (by rw [q0, q1, q100])).trans f2
  have q102 : s 102 = 1 := ((show s 102 = onN (s 0) (s 1) from h102).trans (by rw [q0, q1])).trans hon0
  have q103 : s 103 = K1 := (show s 103 = ofBytes ((List.range 28).map fun i => s (30 + i)) from h103).trans qK1
  have q104 : s 104 = 0 := ((show s 104 = farOf (mulN (s 0) (s 1) (s 103)) from h104).trans (by rw [q0, q1, q103])).trans f3
  have q105 : s 105 = X4 := ((show s 105 = xOf (mulN (s 0) (s 1) (s 103)) from h105).trans (by rw [q0, q1, q103])).trans gx3
  have q106 : s 106 = Y4 := ((show s 106 = yOf (mulN (s 0) (s 1) (s 103)) from h106).trans (by rw [q0, q1, q103])).trans gy3
  have q107 : s 107 = 1 := ((show s 107 = onN (s 105) (s 106) from h107).trans (by rw [q105, q106])).trans on4
  have q108 : s 108 = 1 := same_pts h108 (by rw [q97, q105]) (by rw [q98, q106])
  have q109 : s 109 = 1 := ((show s 109 = onN (s 97) (s 98) from h109).trans (by rw [q97, q98])).trans on4
  have q110 : s 110 = 0 := (show s 110 = if s 109 = 0 then 1 else 0 from h110).trans (if_neg (by rw [q109]; decide))
  exact ⟨q62, q91, q92, q93, q94, q96, q99, q101, q102, q104, q107, q108, q109, q110⟩
def ex17l : List Ex := [
.feq (.v 109) (.c 0),
.op 20 [(.v 97), (.v 98)],
.op 19 ((Wd.c 4 :: (bs28 97 ++ bs28 98)) ++ (Wd.c 4 :: (bs28 102 ++ bs28 103))),
.op 20 [(.v 102), (.v 103)],
.op 25 [(.v 0), (.v 1), (.v 105)],
.op 2 (vsF 30),
.op 20 [(.v 0), (.v 1)],
.op 27 [(.v 0), (.v 1), (.v 100)],
.op 26 [(.v 0), (.v 1), (.v 100)],
.op 25 [(.v 0), (.v 1), (.v 100)],
.op 2 (vsF 2),
.op 20 [(.v 0), (.v 1)],
.op 27 [(.v 0), (.v 1), (.v 95)],
.op 26 [(.v 0), (.v 1), (.v 95)],
.op 25 [(.v 0), (.v 1), (.v 95)],
.op 2 (vsF 63),
.op 20 [(.v 0), (.v 1)],
.feq (.v 92) (.c 0),
.op 20 [(.v 0), (.v 1)],
.feq (.v 62) (.c 0),
.op 32 [(.v 61), (.c 0)],
.op 32 [(.v 61), (.c 1)],
.op 32 [(.v 61), (.c 2)],
.op 32 [(.v 61), (.c 3)],
.op 32 [(.v 61), (.c 4)],
.op 32 [(.v 61), (.c 5)],
.op 32 [(.v 61), (.c 6)],
.op 32 [(.v 61), (.c 7)],
.op 32 [(.v 61), (.c 8)],
.op 32 [(.v 61), (.c 9)],
.op 32 [(.v 61), (.c 10)],
.op 32 [(.v 61), (.c 11)],
.op 32 [(.v 61), (.c 12)],
.op 32 [(.v 61), (.c 13)],
.op 32 [(.v 61), (.c 14)],
.op 32 [(.v 61), (.c 15)],
.op 32 [(.v 61), (.c 16)],
.op 32 [(.v 61), (.c 17)],
.op 32 [(.v 61), (.c 18)],
.op 32 [(.v 61), (.c 19)],
.op 32 [(.v 61), (.c 20)],
.op 32 [(.v 61), (.c 21)],
.op 32 [(.v 61), (.c 22)],
.op 32 [(.v 61), (.c 23)],
.op 32 [(.v 61), (.c 24)],
.op 32 [(.v 61), (.c 25)],
.op 32 [(.v 61), (.c 26)],
.op 32 [(.v 61), (.c 27)],
.op 31 [(.v 59), (.v 60)],
.op 30 [(.v 59), (.v 60)],
.op 2 (vsF 30),
.op 2 (vsF 2)]
def dec17l : List (Nat × Bool) := [(62, true), (91, false), (92, true), (93, false), (94, true), (96, false), (99, true), (101, false), (104, true), (106, true), (107, true), (108, true), (109, true), (110, false)]
def st17l : St := startSt [.one (.sv 0 0 57 58), .agg (numsFrom .u8 2 28), .agg (numsFrom .u8 30 28)] [(0, ptRow 0 1)] 59 1
def br17l : BriefR := ⟨.ret, 111, ex17l, [], [.one (.lit (.bool true))], []⟩
theorem run17l : briefR (tabZ xt2) Try.f17 [] (runF (tabZ xt2) (fixN 39 1 dec17l []) 3000 Try.f17 st17l) = some br17l := by kernel_rfl
theorem law17l {s : Nums}  {c0 : Nat} {K0 : Nat} {K1 : Nat} {x0 y0 : Nat} (lx0 : x0 < pq) (ly0 : y0 < pq) (hon0 : onN x0 y0 = 1) {S : Nat} (hS : (K0 + K1) % 2 ^ 224 = S) (lS : S < 2 ^ 224) (hlt : K0 + K1 < 2 ^ 224) {X4 Y4 : Nat} (lX4 : X4 < pq) (lY4 : Y4 < pq) (on4 : onN X4 Y4 = 1) (f1 : farOf (mulN x0 y0 S) = 0) (gx1 : xOf (mulN x0 y0 S) = X4) (gy1 : yOf (mulN x0 y0 S) = Y4) (f2 : farOf (mulN x0 y0 K0) = 0) (gx2 : xOf (mulN x0 y0 K0) = X4) (gy2 : yOf (mulN x0 y0 K0) = Y4) (f3 : farOf (mulN x0 y0 K1) = 1) (q0 : s 0 = x0) (q1 : s 1 = y0) (q58 : s 58 = c0) (qK0 : ofBytes ((List.range 28).map fun i => s (2 + i)) = K0) (qK1 : ofBytes ((List.range 28).map fun i => s (30 + i)) = K1)  (h : Holds s 111 ex17l) : s 62 = 1 ∧ s 91 = 0 ∧ s 92 = 1 ∧ s 93 = 0 ∧ s 94 = 1 ∧ s 96 = 0 ∧ s 99 = 1 ∧ s 101 = 0 ∧ s 104 = 1 ∧ s 106 = 1 ∧ s 107 = 1 ∧ s 108 = 1 ∧ s 109 = 1 ∧ s 110 = 0 := by
  obtain ⟨h110, h109, h108, h107, h106, h105, h104, h103, h102, h101, h100, h99, h98, h97, h96, h95, h94, h93, h92, h91, h90, h89, h88, h87, h86, h85, h84, h83, h82, h81, h80, h79, h78, h77, h76, h75, h74, h73, h72, h71, h70, h69, h68, h67, h66, h65, h64, h63, h62, h61, h60, h59, _⟩ := h
  have q59 : s 59 = K0 := (show s 59 = ofBytes ((List.range 28).map fun i => s (2 + i)) from h59).trans qK0
  have q60 : s 60 = K1 := (show s 60 = ofBytes ((List.range 28).map fun i => s (30 + i)) from h60).trans qK1
  have q61 : s 61 = S := (show s 61 = (s 59 + s 60) % 2 ^ 224 from h61).trans (by rw [q59, q60]; exact hS)
  have q62 : s 62 = 1 := (show s 62 = if s 59 + s 60 < 2 ^ 224 then 1 else 0 from h62).trans (if_pos (by rw [q59, q60]; exact hlt))
  have q91 : s 91 = 0 := (show s 91 = if s 62 = 0 then 1 else 0 from h91).trans (if_neg (by rw [q62]; decide))
  have q92 : s 92 = 1 := ((show s 92 = onN (s 0) (s 1) from h92).trans (by rw [q0, q1])).trans hon0
  have q93 : s 93 = 0 := (show s 93 = if s 92 = 0 then 1 else 0 from h93).trans (if_neg (by rw [q92]; decide))
  have q94 : s 94 = 1 := ((show s 94 = onN (s 0) (s 1) from h94).trans (by rw [q0, q1])).trans hon0
  have B63 : ∀ i, i < 28 → s (63 + i) = by8 (27 - i) (s 61) := fun i hi => by
    rcases cases28 hi with rfl | rfl | rfl | rfl | rfl | rfl | rfl | rfl | rfl | rfl | rfl | rfl | rfl | rfl | rfl | rfl | rfl | rfl | rfl | rfl | rfl | rfl | rfl | rfl | rfl | rfl | rfl | rfl
    · exact h63
    · exact h64
    · exact h65
    · exact h66
    · exact h67
    · exact h68
    · exact h69
    · exact h70
    · exact h71
    · exact h72
    · exact h73
    · exact h74
    · exact h75
    · exact h76
    · exact h77
    · exact h78
    · exact h79
    · exact h80
    · exact h81
    · exact h82
    · exact h83
    · exact h84
    · exact h85
    · exact h86
    · exact h87
    · exact h88
    · exact h89
    · exact h90
  have q95 : s 95 = S := (show s 95 = ofBytes ((List.range 28).map fun i => s (63 + i)) from h95).trans ((bytes_back28 B63 (by rw [q61]; exact lS)).trans q61)
  have q96 : s 96 = 0 := ((show s 96 = farOf (mulN (s 0) (s 1) (s 95)) from h96).trans (by rw [q0, q1, q95])).trans f1
  have q97 : s 97 = X4 := ((show s 97 = xOf (mulN (s 0) (s 1) (s 95)) from h97).trans (by rw [q0, q1, q95])).trans gx1
  have q98 : s 98 = Y4 := ((show s 98 = yOf (mulN (s 0) (s 1) (s 95)) from h98).trans (by rw [q0, q1, q95])).trans gy1
  have q99 : s 99 = 1 := ((show s 99 = onN (s 0) (s 1) from h99).trans (by rw [q0, q1])).trans hon0
  have q100 : s 100 = K0 := (show s 100 = ofBytes ((List.range 28).map fun i => s (2 + i)) from h100).trans qK0
  have q101 : s 101 = 0 := ((show s 101 = farOf (mulN (s 0) (s 1) (s 100)) from h101).trans (by rw [q0, q1, q100])).trans f2
  have q102 : s 102 = X4 := ((show s 102 = xOf (mulN (s 0) (s 1) (s 100)) from h102).trans (by rw [q0, q1, q100])).trans gx2
  have q103 : s 103 = Y4 := ((show s 103 = yOf (mulN (s 0) (s 1) (s 100)) from h103).trans (by rw [q0, q1, q100])).trans gy2
  have q104 : s 104 = 1 := ((show s 104 = onN (s 0) (s 1) from h104).trans (by rw [q0, q1])).trans hon0
  have q105 : s 105 = K1 := (show s 105 = ofBytes ((List.range 28).map fun i => s (30 + i)) from h105).trans qK1
  have q106 : s 106 = 1 := ((show s 106 = farOf (mulN (s 0) (s 1) (s 105)) from h106).trans (by rw [q0, q1, q105])).trans f3
  have q107 : s 107 = 1 := ((show s 107 = onN (s 102) (s 103) from h107).trans (by rw [q102, q103])).trans on4
  have q108 : s 108 = 1 := same_pts h108 (by rw [q97, q102]) (by rw [q98, q103])
  have q109 : s 109 = 1 := ((show s 109 = onN (s 97) (s 98) from h109).trans (by rw [q97, q98])).trans on4
  have q110 : s 110 = 0 := (show s 110 = if s 109 = 0 then 1 else 0 from h110).trans (if_neg (by rw [q109]; decide))
  exact ⟨q62, q91, q92, q93, q94, q96, q99, q101, q104, q106, q107, q108, q109, q110⟩
def ex17m : List Ex := [
.feq (.v 115) (.c 0),
.op 20 [(.v 97), (.v 98)],
.op 19 ((Wd.c 4 :: (bs28 97 ++ bs28 98)) ++ (Wd.c 4 :: (bs28 112 ++ bs28 113))),
.op 23 [(.v 102), (.v 103), (.v 107), (.v 108)],
.op 22 [(.v 102), (.v 103), (.v 107), (.v 108)],
.op 21 [(.v 102), (.v 103), (.v 107), (.v 108)],
.op 20 [(.v 107), (.v 108)],
.op 20 [(.v 102), (.v 103)],
.op 27 [(.v 0), (.v 1), (.v 105)],
.op 26 [(.v 0), (.v 1), (.v 105)],
.op 25 [(.v 0), (.v 1), (.v 105)],
.op 2 (vsF 30),
.op 20 [(.v 0), (.v 1)],
.op 27 [(.v 0), (.v 1), (.v 100)],
.op 26 [(.v 0), (.v 1), (.v 100)],
.op 25 [(.v 0), (.v 1), (.v 100)],
.op 2 (vsF 2),
.op 20 [(.v 0), (.v 1)],
.op 27 [(.v 0), (.v 1), (.v 95)],
.op 26 [(.v 0), (.v 1), (.v 95)],
.op 25 [(.v 0), (.v 1), (.v 95)],
.op 2 (vsF 63),
.op 20 [(.v 0), (.v 1)],
.feq (.v 92) (.c 0),
.op 20 [(.v 0), (.v 1)],
.feq (.v 62) (.c 0),
.op 32 [(.v 61), (.c 0)],
.op 32 [(.v 61), (.c 1)],
.op 32 [(.v 61), (.c 2)],
.op 32 [(.v 61), (.c 3)],
.op 32 [(.v 61), (.c 4)],
.op 32 [(.v 61), (.c 5)],
.op 32 [(.v 61), (.c 6)],
.op 32 [(.v 61), (.c 7)],
.op 32 [(.v 61), (.c 8)],
.op 32 [(.v 61), (.c 9)],
.op 32 [(.v 61), (.c 10)],
.op 32 [(.v 61), (.c 11)],
.op 32 [(.v 61), (.c 12)],
.op 32 [(.v 61), (.c 13)],
.op 32 [(.v 61), (.c 14)],
.op 32 [(.v 61), (.c 15)],
.op 32 [(.v 61), (.c 16)],
.op 32 [(.v 61), (.c 17)],
.op 32 [(.v 61), (.c 18)],
.op 32 [(.v 61), (.c 19)],
.op 32 [(.v 61), (.c 20)],
.op 32 [(.v 61), (.c 21)],
.op 32 [(.v 61), (.c 22)],
.op 32 [(.v 61), (.c 23)],
.op 32 [(.v 61), (.c 24)],
.op 32 [(.v 61), (.c 25)],
.op 32 [(.v 61), (.c 26)],
.op 32 [(.v 61), (.c 27)],
.op 31 [(.v 59), (.v 60)],
.op 30 [(.v 59), (.v 60)],
.op 2 (vsF 30),
.op 2 (vsF 2)]
def dec17m : List (Nat × Bool) := [(62, true), (91, false), (92, true), (93, false), (94, true), (96, false), (99, true), (101, false), (104, true), (106, false), (109, true), (110, true), (111, false), (114, true), (115, true), (116, false)]
def st17m : St := startSt [.one (.sv 0 0 57 58), .agg (numsFrom .u8 2 28), .agg (numsFrom .u8 30 28)] [(0, ptRow 0 1)] 59 1
def br17m : BriefR := ⟨.ret, 117, ex17m, [], [.one (.lit (.bool true))], []⟩
theorem run17m : briefR (tabZ xt2) Try.f17 [] (runF (tabZ xt2) (fixN 39 1 dec17m []) 3000 Try.f17 st17m) = some br17m := by kernel_rfl
theorem law17m {s : Nums}  {c0 : Nat} {K0 : Nat} {K1 : Nat} {x0 y0 : Nat} (lx0 : x0 < pq) (ly0 : y0 < pq) (hon0 : onN x0 y0 = 1) {S : Nat} (hS : (K0 + K1) % 2 ^ 224 = S) (lS : S < 2 ^ 224) (hlt : K0 + K1 < 2 ^ 224) {X4 Y4 : Nat} (lX4 : X4 < pq) (lY4 : Y4 < pq) (on4 : onN X4 Y4 = 1) {X2 Y2 : Nat} (lX2 : X2 < pq) (lY2 : Y2 < pq) (on2 : onN X2 Y2 = 1) {X3 Y3 : Nat} (lX3 : X3 < pq) (lY3 : Y3 < pq) (on3 : onN X3 Y3 = 1) (f1 : farOf (mulN x0 y0 S) = 0) (gx1 : xOf (mulN x0 y0 S) = X4) (gy1 : yOf (mulN x0 y0 S) = Y4) (f2 : farOf (mulN x0 y0 K0) = 0) (gx2 : xOf (mulN x0 y0 K0) = X2) (gy2 : yOf (mulN x0 y0 K0) = Y2) (f3 : farOf (mulN x0 y0 K1) = 0) (gx3 : xOf (mulN x0 y0 K1) = X3) (gy3 : yOf (mulN x0 y0 K1) = Y3) (f5 : farOf (addN X2 Y2 X3 Y3) = 0) (gx5 : xOf (addN X2 Y2 X3 Y3) = X4) (gy5 : yOf (addN X2 Y2 X3 Y3) = Y4) (q0 : s 0 = x0) (q1 : s 1 = y0) (q58 : s 58 = c0) (qK0 : ofBytes ((List.range 28).map fun i => s (2 + i)) = K0) (qK1 : ofBytes ((List.range 28).map fun i => s (30 + i)) = K1)  (h : Holds s 117 ex17m) : s 62 = 1 ∧ s 91 = 0 ∧ s 92 = 1 ∧ s 93 = 0 ∧ s 94 = 1 ∧ s 96 = 0 ∧ s 99 = 1 ∧ s 101 = 0 ∧ s 104 = 1 ∧ s 106 = 0 ∧ s 109 = 1 ∧ s 110 = 1 ∧ s 111 = 0 ∧ s 114 = 1 ∧ s 115 = 1 ∧ s 116 = 0 := by
  obtain ⟨h116, h115, h114, h113, h112, h111, h110, h109, h108, h107, h106, h105, h104, h103, h102, h101, h100, h99, h98, h97, h96, h95, h94, h93, h92, h91, h90, h89, h88, h87, h86, h85, h84, h83, h82, h81, h80, h79, h78, h77, h76, h75, h74, h73, h72, h71, h70, h69, h68, h67, h66, h65, h64, h63, h62, h61, h60, h59, _⟩ := h
  have q59 : s 59 = K0 := (show s 59 = ofBytes ((List.range 28).map fun i => s (2 + i)) from h59).trans qK0
  have q60 : s 60 = K1 := (show s 60 = ofBytes ((List.range 28).map fun i => s (30 + i)) from h60).trans qK1
  have q61 : s 61 = S := (show s 61 = (s 59 + s 60) % 2 ^ 224 from h61).trans (by rw [q59, q60]; exact hS)
  have q62 : s 62 = 1 := (show s 62 = if s 59 + s 60 < 2 ^ 224 then 1 else 0 from h62).trans (if_pos (by rw [q59, q60]; exact hlt))
  have q91 : s 91 = 0 := (show s 91 = if s 62 = 0 then 1 else 0 from h91).trans (if_neg (by rw [q62]; decide))
  have q92 : s 92 = 1 := ((show s 92 = onN (s 0) (s 1) from h92).trans (by rw [q0, q1])).trans hon0
  have q93 : s 93 = 0 := (show s 93 = if s 92 = 0 then 1 else 0 from h93).trans (if_neg (by rw [q92]; decide))
  have q94 : s 94 = 1 := ((show s 94 = onN (s 0) (s 1) from h94).trans (by rw [q0, q1])).trans hon0
  have B63 : ∀ i, i < 28 → s (63 + i) = by8 (27 - i) (s 61) := fun i hi => by
    rcases cases28 hi with rfl | rfl | rfl | rfl | rfl | rfl | rfl | rfl | rfl | rfl | rfl | rfl | rfl | rfl | rfl | rfl | rfl | rfl | rfl | rfl | rfl | rfl | rfl | rfl | rfl | rfl | rfl | rfl
    · exact h63
    · exact h64
    · exact h65
    · exact h66
    · exact h67
    · exact h68
    · exact h69
    · exact h70
    · exact h71
    · exact h72
    · exact h73
    · exact h74
    · exact h75
    · exact h76
    · exact h77
    · exact h78
    · exact h79
    · exact h80
    · exact h81
    · exact h82
    · exact h83
    · exact h84
    · exact h85
    · exact h86
    · exact h87
    · exact h88
    · exact h89
    · exact h90
  have q95 : s 95 = S := (show s 95 = ofBytes ((List.range 28).map fun i => s (63 + i)) from h95).trans ((bytes_back28 B63 (by rw [q61]; exact lS)).trans q61)
  have q96 : s 96 = 0 := ((show s 96 = farOf (mulN (s 0) (s 1) (s 95)) from h96).trans (by rw [q0, q1, q95])).trans f1
  have q97 : s 97 = X4 := ((show s 97 = xOf (mulN (s 0) (s 1) (s 95)) from h97).trans (by rw [q0, q1, q95])).trans gx1
  have q98 : s 98 = Y4 := ((show s 98 = yOf (mulN (s 0) (s 1) (s 95)) from h98).trans (by rw [q0, q1, q95])).trans gy1
  have q99 : s 99 = 1 := ((show s 99 = onN (s 0) (s 1) from h99).trans (by rw [q0, q1])).trans hon0
  have q100 : s 100 = K0 := (show s 100 = ofBytes ((List.range 28).map fun i => s (2 + i)) from h100).trans qK0
  have q101 : s 101 = 0 := ((show s 101 = farOf (mulN (s 0) (s 1) (s 100)) from h101).trans (by rw [q0, q1, q100])).trans f2
  have q102 : s 102 = X2 := ((show s 102 = xOf (mulN (s 0) (s 1) (s 100)) from h102).trans (by rw [q0, q1, q100])).trans gx2
  have q103 : s 103 = Y2 := ((show s 103 = yOf (mulN (s 0) (s 1) (s 100)) from h103).trans (by rw [q0, q1, q100])).trans gy2
  have q104 : s 104 = 1 := ((show s 104 = onN (s 0) (s 1) from h104).trans (by rw [q0, q1])).trans hon0
  have q105 : s 105 = K1 := (show s 105 = ofBytes ((List.range 28).map fun i => s (30 + i)) from h105).trans qK1
  have q106 : s 106 = 0 := ((show s 106 = farOf (mulN (s 0) (s 1) (s 105)) from h106).trans (by rw [q0, q1, q105])).trans f3
  have q107 : s 107 = X3 := ((show s 107 = xOf (mulN (s 0) (s 1) (s 105)) from h107).trans (by rw [q0, q1, q105])).trans gx3
  have q108 : s 108 = Y3 := ((show s 108 = yOf (mulN (s 0) (s 1) (s 105)) from h108).trans (by rw [q0, q1, q105])).trans gy3
  have q109 : s 109 = 1 := ((show s 109 = onN (s 102) (s 103) from h109).trans (by rw [q102, q103])).trans on2
  have q110 : s 110 = 1 := ((show s 110 = onN (s 107) (s 108) from h110).trans (by rw [q107, q108])).trans on3
  have q111 : s 111 = 0 := ((show s 111 = farOf (addN (s 102) (s 103) (s 107) (s 108)) from h111).trans (by rw [q102, q103, q107, q108])).trans f5
  have q112 : s 112 = X4 := ((show s 112 = xOf (addN (s 102) (s 103) (s 107) (s 108)) from h112).trans (by rw [q102, q103, q107, q108])).trans gx5
  have q113 : s 113 = Y4 := ((show s 113 = yOf (addN (s 102) (s 103) (s 107) (s 108)) from h113).trans (by rw [q102, q103, q107, q108])).trans gy5
  have q114 : s 114 = 1 := same_pts h114 (by rw [q97, q112]) (by rw [q98, q113])
  have q115 : s 115 = 1 := ((show s 115 = onN (s 97) (s 98) from h115).trans (by rw [q97, q98])).trans on4
  have q116 : s 116 = 0 := (show s 116 = if s 115 = 0 then 1 else 0 from h116).trans (if_neg (by rw [q115]; decide))
  exact ⟨q62, q91, q92, q93, q94, q96, q99, q101, q104, q106, q109, q110, q111, q114, q115, q116⟩
theorem law17_good {w : World} {v : Value} (h1 : PtOf w v) {k0 : List Nat} (hk0 : Is28 k0) {k1 : List Nat} (hk1 : Is28 k1) (hlt : ofBytes k0 + ofBytes k1 < 2 ^ 224) : Law 17 w [v, arrV k0, arrV k1] := by
  obtain ⟨S, hS, lS⟩ : ∃ S, (ofBytes k0 + ofBytes k1) % 2 ^ 224 = S ∧ S < 2 ^ 224 := ⟨_, rfl, Nat.mod_lt _ (by decide)⟩
  rcases h1 with ⟨b0, o0, c0, rfl, hc0, hp0⟩ | ⟨b0, o0, c0, x0, y0, rfl, hc0, hp0, lx0, ly0, hon0⟩
  · have lt0 : b0 < w.heap.size := World.block_lt_of_cell? w _ hp0
    let S0 : Nums := fun i =>  if i < 28 then k0.getD (i - 0) 0 else if i < 56 then k1.getD (i - 28) 0 else  c0
    have ak0 : ∀ s : Nums, (∀ i, i < 57 → s i = S0 i) → ∀ m, m < 28 → s (0 + m) = k0.getD m 0 := fun s hs m hm => by
      rw [hs (0 + m) (by omega)]
      show ( if 0 + m < 28 then k0.getD (0 + m - 0) 0 else if 0 + m < 56 then k1.getD (0 + m - 28) 0 else  c0) = _
      rw [if_pos (by omega), show 0 + m - 0 = m by omega]
    have ak1 : ∀ s : Nums, (∀ i, i < 57 → s i = S0 i) → ∀ m, m < 28 → s (28 + m) = k1.getD m 0 := fun s hs m hm => by
      rw [hs (28 + m) (by omega)]
      show ( if 28 + m < 28 then k0.getD (28 + m - 0) 0 else if 28 + m < 56 then k1.getD (28 + m - 28) 0 else  c0) = _
      rw [if_neg (by omega), if_pos (by omega), show 28 + m - 28 = m by omega]
    refine calls_briefR (F := fixN 39 1 dec17f []) (tabZ_ok xt2_ok) run17f Try.func17 Try.ntmps17 rfl (by decide +kernel) (by decide +kernel) (by decide +kernel) (show 3 ≤ 39 by decide) (show 3 < 4095 by decide) S0 (fun r =>  (b0, o0))
      (vals := [_, arrV k0, arrV k1]) (fun s hs => ⟨⟨by rw [hs 56 (by decide)]; rfl, by rw [hs 56 (by decide)]; exact hc0, show 0 < 1 by decide⟩, agg_rep hk0 (ak0 s hs), agg_rep hk1 (ak1 s hs), trivial⟩) (fun s hs => ⟨show 0 < 1 by decide, ⟨⟨_, hp0, rfl⟩, trivial⟩, trivial⟩) (fun r l hl hr => by cases hr) (fun r _ => lt0) (fun r q _ _ h => by cases h) ?_ ?_
    · intro s hs hH i bb hb
      obtain ⟨q60, q89, q93⟩ := law17f (c0 := c0) (K0 := ofBytes k0) (K1 := ofBytes k1)  hS lS hlt (hs 56 (by decide)) (kb_of hk0 (ak0 s hs)) (kb_of hk1 (ak1 s hs)) hH
      have := findT_mem (show findT i dec17f = some bb from hb)
      simp only [dec17f, List.mem_cons, List.not_mem_nil, or_false, Prod.mk.injEq] at this
      rcases this with ⟨rfl, rfl⟩ | ⟨rfl, rfl⟩ | ⟨rfl, rfl⟩ <;> assumption
    · intro s hs hH st' β' a' w' v hv hm hag hr hbe
      have hv' : v = .bool true := hv
      exact ⟨by rw [hv'], hbe⟩
  · have lt0 : b0 < w.heap.size := World.block_lt_of_cell? w _ (hp0 0 4 rfl)
    have both : mulN x0 y0 S = padd (mulN x0 y0 (ofBytes k0)) (mulN x0 y0 (ofBytes k1)) := by
      rw [← hS, Nat.mod_eq_of_lt hlt]
      exact nsmul_add fine (onN_on hon0) _ _
    rcases mul_cases hon0 S with ⟨f1, e1⟩ | ⟨X4, Y4, f1, gx1, gy1, lX4, lY4, on4, e1⟩
    · rw [e1] at both
      rcases mul_cases hon0 (ofBytes k0) with ⟨f2, e2⟩ | ⟨X2, Y2, f2, gx2, gy2, lX2, lY2, on2, e2⟩
      · have f3 : farOf (mulN x0 y0 (ofBytes k1)) = 1 := is_far (by rw [e2, far_padd] at both; exact both.symm)
        let S0 : Nums := fun i => if i = 0 then x0 else if i = 1 then y0 else if i < 30 then k0.getD (i - 2) 0 else if i < 58 then k1.getD (i - 30) 0 else  c0
        have ak0 : ∀ s : Nums, (∀ i, i < 59 → s i = S0 i) → ∀ m, m < 28 → s (2 + m) = k0.getD m 0 := fun s hs m hm => by
          rw [hs (2 + m) (by omega)]
          show (if 2 + m = 0 then x0 else if 2 + m = 1 then y0 else if 2 + m < 30 then k0.getD (2 + m - 2) 0 else if 2 + m < 58 then k1.getD (2 + m - 30) 0 else  c0) = _
          rw [if_neg (by omega), if_neg (by omega), if_pos (by omega), show 2 + m - 2 = m by omega]
        have ak1 : ∀ s : Nums, (∀ i, i < 59 → s i = S0 i) → ∀ m, m < 28 → s (30 + m) = k1.getD m 0 := fun s hs m hm => by
          rw [hs (30 + m) (by omega)]
          show (if 30 + m = 0 then x0 else if 30 + m = 1 then y0 else if 30 + m < 30 then k0.getD (30 + m - 2) 0 else if 30 + m < 58 then k1.getD (30 + m - 30) 0 else  c0) = _
          rw [if_neg (by omega), if_neg (by omega), if_neg (by omega), if_pos (by omega), show 30 + m - 30 = m by omega]
        refine calls_briefR (F := fixN 39 1 dec17a []) (tabZ_ok xt2_ok) run17a Try.func17 Try.ntmps17 rfl (by decide +kernel) (by decide +kernel) (by decide +kernel) (show 3 ≤ 39 by decide) (show 3 < 4095 by decide) S0 (fun r =>  (b0, o0))
          (vals := [_, arrV k0, arrV k1]) (fun s hs => ⟨⟨by rw [hs 58 (by decide)]; rfl, by rw [hs 58 (by decide)]; exact hc0, show 0 < 1 by decide⟩, agg_rep hk0 (ak0 s hs), agg_rep hk1 (ak1 s hs), trivial⟩) (fun s hs => ⟨show 0 < 1 by decide, ptRow_row rfl hp0 (hs 0 (by decide)) (hs 1 (by decide)) lx0 ly0, trivial⟩) (fun r l hl hr => by cases hr) (fun r _ => lt0) (fun r q _ _ h => by cases h) ?_ ?_
        · intro s hs hH i bb hb
          obtain ⟨q62, q91, q92, q93, q94, q96, q97, q99, q100, q102, q103⟩ := law17a (c0 := c0) (K0 := ofBytes k0) (K1 := ofBytes k1) (x0 := x0) (y0 := y0) lx0 ly0 hon0 hS lS hlt f1 f2 f3 (hs 0 (by decide)) (hs 1 (by decide)) (hs 58 (by decide)) (kb_of hk0 (ak0 s hs)) (kb_of hk1 (ak1 s hs)) hH
          have := findT_mem (show findT i dec17a = some bb from hb)
          simp only [dec17a, List.mem_cons, List.not_mem_nil, or_false, Prod.mk.injEq] at this
          rcases this with ⟨rfl, rfl⟩ | ⟨rfl, rfl⟩ | ⟨rfl, rfl⟩ | ⟨rfl, rfl⟩ | ⟨rfl, rfl⟩ | ⟨rfl, rfl⟩ | ⟨rfl, rfl⟩ | ⟨rfl, rfl⟩ | ⟨rfl, rfl⟩ | ⟨rfl, rfl⟩ | ⟨rfl, rfl⟩ <;> assumption
        · intro s hs hH st' β' a' w' v hv hm hag hr hbe
          have hv' : v = .bool true := hv
          exact ⟨by rw [hv'], hbe⟩
      · rcases mul_cases hon0 (ofBytes k1) with ⟨f3, e3⟩ | ⟨X3, Y3, f3, gx3, gy3, lX3, lY3, on3, e3⟩
        · rw [e2, e3, padd_far_r] at both
          exact absurd both.symm pt_ne
        · have f5 : farOf (addN X2 Y2 X3 Y3) = 1 := is_far (by rw [e2, e3] at both; exact both.symm)
          let S0 : Nums := fun i => if i = 0 then x0 else if i = 1 then y0 else if i < 30 then k0.getD (i - 2) 0 else if i < 58 then k1.getD (i - 30) 0 else  c0
          have ak0 : ∀ s : Nums, (∀ i, i < 59 → s i = S0 i) → ∀ m, m < 28 → s (2 + m) = k0.getD m 0 := fun s hs m hm => by
            rw [hs (2 + m) (by omega)]
            show (if 2 + m = 0 then x0 else if 2 + m = 1 then y0 else if 2 + m < 30 then k0.getD (2 + m - 2) 0 else if 2 + m < 58 then k1.getD (2 + m - 30) 0 else  c0) = _
            rw [if_neg (by omega), if_neg (by omega), if_pos (by omega), show 2 + m - 2 = m by omega]
          have ak1 : ∀ s : Nums, (∀ i, i < 59 → s i = S0 i) → ∀ m, m < 28 → s (30 + m) = k1.getD m 0 := fun s hs m hm => by
            rw [hs (30 + m) (by omega)]
            show (if 30 + m = 0 then x0 else if 30 + m = 1 then y0 else if 30 + m < 30 then k0.getD (30 + m - 2) 0 else if 30 + m < 58 then k1.getD (30 + m - 30) 0 else  c0) = _
            rw [if_neg (by omega), if_neg (by omega), if_neg (by omega), if_pos (by omega), show 30 + m - 30 = m by omega]
          refine calls_briefR (F := fixN 39 1 dec17b []) (tabZ_ok xt2_ok) run17b Try.func17 Try.ntmps17 rfl (by decide +kernel) (by decide +kernel) (by decide +kernel) (show 3 ≤ 39 by decide) (show 3 < 4095 by decide) S0 (fun r =>  (b0, o0))
            (vals := [_, arrV k0, arrV k1]) (fun s hs => ⟨⟨by rw [hs 58 (by decide)]; rfl, by rw [hs 58 (by decide)]; exact hc0, show 0 < 1 by decide⟩, agg_rep hk0 (ak0 s hs), agg_rep hk1 (ak1 s hs), trivial⟩) (fun s hs => ⟨show 0 < 1 by decide, ptRow_row rfl hp0 (hs 0 (by decide)) (hs 1 (by decide)) lx0 ly0, trivial⟩) (fun r l hl hr => by cases hr) (fun r _ => lt0) (fun r q _ _ h => by cases h) ?_ ?_
          · intro s hs hH i bb hb
            obtain ⟨q62, q91, q92, q93, q94, q96, q97, q99, q102, q104, q107, q108, q109, q110⟩ := law17b (c0 := c0) (K0 := ofBytes k0) (K1 := ofBytes k1) (x0 := x0) (y0 := y0) lx0 ly0 hon0 hS lS hlt lX2 lY2 on2 lX3 lY3 on3 f1 f2 gx2 gy2 f3 gx3 gy3 f5 (hs 0 (by decide)) (hs 1 (by decide)) (hs 58 (by decide)) (kb_of hk0 (ak0 s hs)) (kb_of hk1 (ak1 s hs)) hH
            have := findT_mem (show findT i dec17b = some bb from hb)
            simp only [dec17b, List.mem_cons, List.not_mem_nil, or_false, Prod.mk.injEq] at this
            rcases this with ⟨rfl, rfl⟩ | ⟨rfl, rfl⟩ | ⟨rfl, rfl⟩ | ⟨rfl, rfl⟩ | ⟨rfl, rfl⟩ | ⟨rfl, rfl⟩ | ⟨rfl, rfl⟩ | ⟨rfl, rfl⟩ | ⟨rfl, rfl⟩ | ⟨rfl, rfl⟩ | ⟨rfl, rfl⟩ | ⟨rfl, rfl⟩ | ⟨rfl, rfl⟩ | ⟨rfl, rfl⟩ <;> assumption
          · intro s hs hH st' β' a' w' v hv hm hag hr hbe
            have hv' : v = .bool true := hv
            exact ⟨by rw [hv'], hbe⟩
    · rw [e1] at both
      rcases mul_cases hon0 (ofBytes k0) with ⟨f2, e2⟩ | ⟨X2, Y2, f2, gx2, gy2, lX2, lY2, on2, e2⟩
      · obtain ⟨f3, gx3, gy3⟩ := is_pt (p := mulN x0 y0 (ofBytes k1)) (by rw [e2, far_padd] at both; exact both.symm) lX4 lY4
        let S0 : Nums := fun i => if i = 0 then x0 else if i = 1 then y0 else if i < 30 then k0.getD (i - 2) 0 else if i < 58 then k1.getD (i - 30) 0 else  c0
        have ak0 : ∀ s : Nums, (∀ i, i < 59 → s i = S0 i) → ∀ m, m < 28 → s (2 + m) = k0.getD m 0 := fun s hs m hm => by
          rw [hs (2 + m) (by omega)]
          show (if 2 + m = 0 then x0 else if 2 + m = 1 then y0 else if 2 + m < 30 then k0.getD (2 + m - 2) 0 else if 2 + m < 58 then k1.getD (2 + m - 30) 0 else  c0) = _
          rw [if_neg (by omega), if_neg (by omega), if_pos (by omega), show 2 + m - 2 = m by omega]
        have ak1 : ∀ s : Nums, (∀ i, i < 59 → s i = S0 i) → ∀ m, m < 28 → s (30 + m) = k1.getD m 0 := fun s hs m hm => by
          rw [hs (30 + m) (by omega)]
          show (if 30 + m = 0 then x0 else if 30 + m = 1 then y0 else if 30 + m < 30 then k0.getD (30 + m - 2) 0 else if 30 + m < 58 then k1.getD (30 + m - 30) 0 else  c0) = _
          rw [if_neg (by omega), if_neg (by omega), if_neg (by omega), if_pos (by omega), show 30 + m - 30 = m by omega]
        refine calls_briefR (F := fixN 39 1 dec17k []) (tabZ_ok xt2_ok) run17k Try.func17 Try.ntmps17 rfl (by decide +kernel) (by decide +kernel) (by decide +kernel) (show 3 ≤ 39 by decide) (show 3 < 4095 by decide) S0 (fun r =>  (b0, o0))
          (vals := [_, arrV k0, arrV k1]) (fun s hs => ⟨⟨by rw [hs 58 (by decide)]; rfl, by rw [hs 58 (by decide)]; exact hc0, show 0 < 1 by decide⟩, agg_rep hk0 (ak0 s hs), agg_rep hk1 (ak1 s hs), trivial⟩) (fun s hs => ⟨show 0 < 1 by decide, ptRow_row rfl hp0 (hs 0 (by decide)) (hs 1 (by decide)) lx0 ly0, trivial⟩) (fun r l hl hr => by cases hr) (fun r _ => lt0) (fun r q _ _ h => by cases h) ?_ ?_
        · intro s hs hH i bb hb
          obtain ⟨q62, q91, q92, q93, q94, q96, q99, q101, q102, q104, q107, q108, q109, q110⟩ := law17k (c0 := c0) (K0 := ofBytes k0) (K1 := ofBytes k1) (x0 := x0) (y0 := y0) lx0 ly0 hon0 hS lS hlt lX4 lY4 on4 f1 gx1 gy1 f2 f3 gx3 gy3 (hs 0 (by decide)) (hs 1 (by decide)) (hs 58 (by decide)) (kb_of hk0 (ak0 s hs)) (kb_of hk1 (ak1 s hs)) hH
          have := findT_mem (show findT i dec17k = some bb from hb)
          simp only [dec17k, List.mem_cons, List.not_mem_nil, or_false, Prod.mk.injEq] at this
          rcases this with ⟨rfl, rfl⟩ | ⟨rfl, rfl⟩ | ⟨rfl, rfl⟩ | ⟨rfl, rfl⟩ | ⟨rfl, rfl⟩ | ⟨rfl, rfl⟩ | ⟨rfl, rfl⟩ | ⟨rfl, rfl⟩ | ⟨rfl, rfl⟩ | ⟨rfl, rfl⟩ | ⟨rfl, rfl⟩ | ⟨rfl, rfl⟩ | ⟨rfl, rfl⟩ | ⟨rfl, rfl⟩ <;> assumption
        · intro s hs hH st' β' a' w' v hv hm hag hr hbe
          have hv' : v = .bool true := hv
          exact ⟨by rw [hv'], hbe⟩
      · rcases mul_cases hon0 (ofBytes k1) with ⟨f3, e3⟩ | ⟨X3, Y3, f3, gx3, gy3, lX3, lY3, on3, e3⟩
        · obtain ⟨f2, gx2, gy2⟩ := is_pt (p := mulN x0 y0 (ofBytes k0)) (by rw [e3, padd_far_r] at both; exact both.symm) lX4 lY4
          let S0 : Nums := fun i => if i = 0 then x0 else if i = 1 then y0 else if i < 30 then k0.getD (i - 2) 0 else if i < 58 then k1.getD (i - 30) 0 else  c0
          have ak0 : ∀ s : Nums, (∀ i, i < 59 → s i = S0 i) → ∀ m, m < 28 → s (2 + m) = k0.getD m 0 := fun s hs m hm => by
            rw [hs (2 + m) (by omega)]
            show (if 2 + m = 0 then x0 else if 2 + m = 1 then y0 else if 2 + m < 30 then k0.getD (2 + m - 2) 0 else if 2 + m < 58 then k1.getD (2 + m - 30) 0 else  c0) = _
            rw [if_neg (by omega), if_neg (by omega), if_pos (by omega), show 2 + m - 2 = m by omega]
          have ak1 : ∀ s : Nums, (∀ i, i < 59 → s i = S0 i) → ∀ m, m < 28 → s (30 + m) = k1.getD m 0 := fun s hs m hm => by
            rw [hs (30 + m) (by omega)]
            show (if 30 + m = 0 then x0 else if 30 + m = 1 then y0 else if 30 + m < 30 then k0.getD (30 + m - 2) 0 else if 30 + m < 58 then k1.getD (30 + m - 30) 0 else  c0) = _
            rw [if_neg (by omega), if_neg (by omega), if_neg (by omega), if_pos (by omega), show 30 + m - 30 = m by omega]
          refine calls_briefR (F := fixN 39 1 dec17l []) (tabZ_ok xt2_ok) run17l Try.func17 Try.ntmps17 rfl (by decide +kernel) (by decide +kernel) (by decide +kernel) (show 3 ≤ 39 by decide) (show 3 < 4095 by decide) S0 (fun r =>  (b0, o0))
            (vals := [_, arrV k0, arrV k1]) (fun s hs => ⟨⟨by rw [hs 58 (by decide)]; rfl, by rw [hs 58 (by decide)]; exact hc0, show 0 < 1 by decide⟩, agg_rep hk0 (ak0 s hs), agg_rep hk1 (ak1 s hs), trivial⟩) (fun s hs => ⟨show 0 < 1 by decide, ptRow_row rfl hp0 (hs 0 (by decide)) (hs 1 (by decide)) lx0 ly0, trivial⟩) (fun r l hl hr => by cases hr) (fun r _ => lt0) (fun r q _ _ h => by cases h) ?_ ?_
          · intro s hs hH i bb hb
            obtain ⟨q62, q91, q92, q93, q94, q96, q99, q101, q104, q106, q107, q108, q109, q110⟩ := law17l (c0 := c0) (K0 := ofBytes k0) (K1 := ofBytes k1) (x0 := x0) (y0 := y0) lx0 ly0 hon0 hS lS hlt lX4 lY4 on4 f1 gx1 gy1 f2 gx2 gy2 f3 (hs 0 (by decide)) (hs 1 (by decide)) (hs 58 (by decide)) (kb_of hk0 (ak0 s hs)) (kb_of hk1 (ak1 s hs)) hH
            have := findT_mem (show findT i dec17l = some bb from hb)
            simp only [dec17l, List.mem_cons, List.not_mem_nil, or_false, Prod.mk.injEq] at this
            rcases this with ⟨rfl, rfl⟩ | ⟨rfl, rfl⟩ | ⟨rfl, rfl⟩ | ⟨rfl, rfl⟩ | ⟨rfl, rfl⟩ | ⟨rfl, rfl⟩ | ⟨rfl, rfl⟩ | ⟨rfl, rfl⟩ | ⟨rfl, rfl⟩ | ⟨rfl, rfl⟩ | ⟨rfl, rfl⟩ | ⟨rfl, rfl⟩ | ⟨rfl, rfl⟩ | ⟨rfl, rfl⟩ <;> assumption
          · intro s hs hH st' β' a' w' v hv hm hag hr hbe
            have hv' : v = .bool true := hv
            exact ⟨by rw [hv'], hbe⟩
        · obtain ⟨f5, gx5, gy5⟩ := is_pt (p := addN X2 Y2 X3 Y3) (by rw [e2, e3] at both; exact both.symm) lX4 lY4
          let S0 : Nums := fun i => if i = 0 then x0 else if i = 1 then y0 else if i < 30 then k0.getD (i - 2) 0 else if i < 58 then k1.getD (i - 30) 0 else  c0
          have ak0 : ∀ s : Nums, (∀ i, i < 59 → s i = S0 i) → ∀ m, m < 28 → s (2 + m) = k0.getD m 0 := fun s hs m hm => by
            rw [hs (2 + m) (by omega)]
            show (if 2 + m = 0 then x0 else if 2 + m = 1 then y0 else if 2 + m < 30 then k0.getD (2 + m - 2) 0 else if 2 + m < 58 then k1.getD (2 + m - 30) 0 else  c0) = _
            rw [if_neg (by omega), if_neg (by omega), if_pos (by omega), show 2 + m - 2 = m by omega]
          have ak1 : ∀ s : Nums, (∀ i, i < 59 → s i = S0 i) → ∀ m, m < 28 → s (30 + m) = k1.getD m 0 := fun s hs m hm => by
            rw [hs (30 + m) (by omega)]
            show (if 30 + m = 0 then x0 else if 30 + m = 1 then y0 else if 30 + m < 30 then k0.getD (30 + m - 2) 0 else if 30 + m < 58 then k1.getD (30 + m - 30) 0 else  c0) = _
            rw [if_neg (by omega), if_neg (by omega), if_neg (by omega), if_pos (by omega), show 30 + m - 30 = m by omega]
          refine calls_briefR (F := fixN 39 1 dec17m []) (tabZ_ok xt2_ok) run17m Try.func17 Try.ntmps17 rfl (by decide +kernel) (by decide +kernel) (by decide +kernel) (show 3 ≤ 39 by decide) (show 3 < 4095 by decide) S0 (fun r =>  (b0, o0))
            (vals := [_, arrV k0, arrV k1]) (fun s hs => ⟨⟨by rw [hs 58 (by decide)]; rfl, by rw [hs 58 (by decide)]; exact hc0, show 0 < 1 by decide⟩, agg_rep hk0 (ak0 s hs), agg_rep hk1 (ak1 s hs), trivial⟩) (fun s hs => ⟨show 0 < 1 by decide, ptRow_row rfl hp0 (hs 0 (by decide)) (hs 1 (by decide)) lx0 ly0, trivial⟩) (fun r l hl hr => by cases hr) (fun r _ => lt0) (fun r q _ _ h => by cases h) ?_ ?_
          · intro s hs hH i bb hb
            obtain ⟨q62, q91, q92, q93, q94, q96, q99, q101, q104, q106, q109, q110, q111, q114, q115, q116⟩ := law17m (c0 := c0) (K0 := ofBytes k0) (K1 := ofBytes k1) (x0 := x0) (y0 := y0) lx0 ly0 hon0 hS lS hlt lX4 lY4 on4 lX2 lY2 on2 lX3 lY3 on3 f1 gx1 gy1 f2 gx2 gy2 f3 gx3 gy3 f5 gx5 gy5 (hs 0 (by decide)) (hs 1 (by decide)) (hs 58 (by decide)) (kb_of hk0 (ak0 s hs)) (kb_of hk1 (ak1 s hs)) hH
            have := findT_mem (show findT i dec17m = some bb from hb)
            simp only [dec17m, List.mem_cons, List.not_mem_nil, or_false, Prod.mk.injEq] at this
            rcases this with ⟨rfl, rfl⟩ | ⟨rfl, rfl⟩ | ⟨rfl, rfl⟩ | ⟨rfl, rfl⟩ | ⟨rfl, rfl⟩ | ⟨rfl, rfl⟩ | ⟨rfl, rfl⟩ | ⟨rfl, rfl⟩ | ⟨rfl, rfl⟩ | ⟨rfl, rfl⟩ | ⟨rfl, rfl⟩ | ⟨rfl, rfl⟩ | ⟨rfl, rfl⟩ | ⟨rfl, rfl⟩ | ⟨rfl, rfl⟩ | ⟨rfl, rfl⟩ <;> assumption
          · intro s hs hH st' β' a' w' v hv hm hag hr hbe
            have hv' : v = .bool true := hv
            exact ⟨by rw [hv'], hbe⟩
theorem law17_all {w : World} {v : Value} {b o n u d f : Nat} (h : Sl w v b o n u d f) {k0 : List Nat} (hk0 : Is28 k0) {k1 : List Nat} (hk1 : Is28 k1) : Law 17 w (v :: [arrV k0, arrV k1]) := by
  have ak0 : ∀ s : Nums, (∀ i, 4 ≤ i → i < 60 → s i = (fun i => if i < 32 then k0.getD (i - 4) 0 else if i < 60 then k1.getD (i - 32) 0 else 0) i) → ∀ m, m < 28 → s (4 + m) = k0.getD m 0 := fun s hs m hm => by
    rw [hs (4 + m) (by omega) (by omega)]
    show (if 4 + m < 32 then k0.getD (4 + m - 4) 0 else if 4 + m < 60 then k1.getD (4 + m - 32) 0 else 0) = _
    rw [if_pos (by omega), show 4 + m - 4 = m by omega]
  have ak1 : ∀ s : Nums, (∀ i, 4 ≤ i → i < 60 → s i = (fun i => if i < 32 then k0.getD (i - 4) 0 else if i < 60 then k1.getD (i - 32) 0 else 0) i) → ∀ m, m < 28 → s (32 + m) = k1.getD m 0 := fun s hs m hm => by
    rw [hs (32 + m) (by omega) (by omega)]
    show (if 32 + m < 32 then k0.getD (32 + m - 4) 0 else if 32 + m < 60 then k1.getD (32 + m - 32) 0 else 0) = _
    rw [if_neg (by omega), if_pos (by omega), show 32 + m - 32 = m by omega]
  by_cases hb : 2147483647 < n ∨ ¬ ofBytes k0 + ofBytes k1 < 2 ^ 224 ∨ f = 0
  · exact law_more (tabZ_ok xt2_ok) (n0 := 60) (vals := [arrV k0, arrV k1]) (K := ofBytes k0) (M := ofBytes k1) (by decide) (fun i => if i < 32 then k0.getD (i - 4) 0 else if i < 60 then k1.getD (i - 32) 0 else 0) run17b1 run17b2 run17b3 Try.func17 Try.ntmps17 (by decide +kernel) (by decide +kernel) (by decide +kernel) (by decide) (by decide) (fun s β hs => ⟨agg_rep hk0 (ak0 s hs), agg_rep hk1 (ak1 s hs), trivial⟩) (fun s hs => kb_of hk0 (ak0 s hs)) (fun s hs => kb_of hk1 (ak1 s hs)) h hb
  · have hf : f = 1 := by have := h.flag.le; omega
    subst hf
    exact law17_good h.point hk0 hk1 (Decidable.not_not.1 fun hh => hb (.inr (.inl hh)))
end P224
