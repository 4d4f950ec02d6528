/- Law ScalarTurns. PRINTED BY A PROGRAM OF MY OWN (gen/mkL12.py). -/
import Derived.Test.YtccmmkgiamcgeaaGV13
set_option linter.all false
namespace P224
open Go Go.RowKit Go.Proofs
set_option maxRecDepth 100000
set_option linter.unusedVariables false
theorem run12b1 : briefR (tabZ xt1) Try.f12 [] (runF (tabZ xt1) (fixN 27 1 [(60, true)] [(0, (0, 3))]) 3000 Try.f12 (startSt (.one (.sy 0 0) :: [.agg (numsFrom .u8 4 28), .agg (numsFrom .u8 32 28)]) [] 60 1)) = some ⟨.ret, 61, [lenE 0], [], [.one (.lit (.bool true))], []⟩ := by kernel_rfl
theorem run12b2 : briefR (tabZ xt1) Try.f12 [] (runF (tabZ xt1) (fixN 27 1 [(60, false), (3, false), (61, true)] [(0, (0, 3))]) 3000 Try.f12 (startSt (.one (.sy 0 0) :: [.agg (numsFrom .u8 4 28), .agg (numsFrom .u8 32 28)]) [] 60 1)) = some ⟨.ret, 62, [.feq (.v 3) (.c 0), lenE 0], [], [.one (.lit (.bool true))], []⟩ := by kernel_rfl
def ex12f : List Ex := [
.op 19 [.c 0, .c 0],
.op 2 (vsF 0),
.op 2 (vsF 28),
.op 2 (vsF 28),
.op 2 (vsF 0)]
def dec12f : List (Nat × Bool) := [(61, true)]
def st12f : St := startSt [.one (.sv 0 0 1 56), .agg (numsFrom .u8 0 28), .agg (numsFrom .u8 28 28)] [(0, [.lit (.int .u8 0)])] 57 1
def br12f : BriefR := ⟨.ret, 62, ex12f, [], [.one (.lit (.bool true))], []⟩
theorem run12f : briefR (tabZ xt1) Try.f12 [] (runF (tabZ xt1) (fixN 27 1 dec12f []) 3000 Try.f12 st12f) = some br12f := by kernel_rfl
theorem law12f {s : Nums}  {c0 : Nat} {K0 : Nat} {K1 : Nat} (q56 : s 56 = c0) (qK0 : ofBytes ((List.range 28).map fun i => s (0 + i)) = K0) (qK1 : ofBytes ((List.range 28).map fun i => s (28 + i)) = K1)  (h : Holds s 62 ex12f) : s 61 = 1 := by
  obtain ⟨h61, h60, h59, h58, h57, _⟩ := h
  have q57 : s 57 = K0 := (show s 57 = ofBytes ((List.range 28).map fun i => s (0 + i)) from h57).trans qK0
  have q58 : s 58 = K1 := (show s 58 = ofBytes ((List.range 28).map fun i => s (28 + i)) from h58).trans qK1
  have q59 : s 59 = K1 := (show s 59 = ofBytes ((List.range 28).map fun i => s (28 + i)) from h59).trans qK1
  have q60 : s 60 = K0 := (show s 60 = ofBytes ((List.range 28).map fun i => s (0 + i)) from h60).trans qK0
  have q61 : s 61 = 1 := (show s 61 = opVal 19 ([0] ++ [0]) from h61).trans (opVal_19 [0] [0] rfl)
  exact q61
def ex12a : List Ex := [
.op 19 [.c 0, .c 0],
.op 2 (vsF 2),
.op 25 [(.v 0), (.v 1), (.v 66)],
.op 2 (vsF 30),
.op 20 [(.v 0), (.v 1)],
.op 2 (vsF 30),
.op 25 [(.v 0), (.v 1), (.v 62)],
.op 2 (vsF 2),
.op 20 [(.v 0), (.v 1)],
.feq (.v 59) (.c 0),
.op 20 [(.v 0), (.v 1)]]
def dec12a : List (Nat × Bool) := [(59, true), (60, false), (61, true), (63, true), (65, true), (67, true), (69, true)]
def st12a : St := startSt [.one (.sv 0 0 57 58), .agg (numsFrom .u8 2 28), .agg (numsFrom .u8 30 28)] [(0, ptRow 0 1)] 59 1
def br12a : BriefR := ⟨.ret, 70, ex12a, [], [.one (.lit (.bool true))], []⟩
theorem run12a : briefR (tabZ xt1) Try.f12 [] (runF (tabZ xt1) (fixN 27 1 dec12a []) 3000 Try.f12 st12a) = some br12a := by kernel_rfl
theorem law12a {s : Nums}  {c0 : Nat} {K0 : Nat} {K1 : Nat} {x0 y0 : Nat} (lx0 : x0 < pq) (ly0 : y0 < pq) (hon0 : onN x0 y0 = 1) (f1 : farOf (mulN x0 y0 K0) = 1) (f2 : farOf (mulN x0 y0 K1) = 1) (q0 : s 0 = x0) (q1 : s 1 = y0) (q58 : s 58 = c0) (qK0 : ofBytes ((List.range 28).map fun i => s (2 + i)) = K0) (qK1 : ofBytes ((List.range 28).map fun i => s (30 + i)) = K1)  (h : Holds s 70 ex12a) : s 59 = 1 ∧ s 60 = 0 ∧ s 61 = 1 ∧ s 63 = 1 ∧ s 65 = 1 ∧ s 67 = 1 ∧ s 69 = 1 := by
  obtain ⟨h69, h68, h67, h66, h65, h64, h63, h62, h61, h60, h59, _⟩ := h
  have q59 : s 59 = 1 := ((show s 59 = onN (s 0) (s 1) from h59).trans (by rw [q0, q1])).trans hon0
  have q60 : s 60 = 0 := (show s 60 = if s 59 = 0 then 1 else 0 from h60).trans (if_neg (by rw [q59]; decide))
  have q61 : s 61 = 1 := ((show s 61 = onN (s 0) (s 1) from h61).trans (by rw [q0, q1])).trans hon0
  have q62 : s 62 = K0 := (show s 62 = ofBytes ((List.range 28).map fun i => s (2 + i)) from h62).trans qK0
  have q63 : s 63 = 1 := ((show s 63 = farOf (mulN (s 0) (s 1) (s 62)) from h63).trans (by rw [q0, q1, q62])).trans f1
  have q64 : s 64 = K1 := (show s 64 = ofBytes ((List.range 28).map fun i => s (30 + i)) from h64).trans qK1
  have q65 : s 65 = 1 := ((show s 65 = onN (s 0) (s 1) from h65).trans (by rw [q0, q1])).trans hon0
  have q66 : s 66 = K1 := (show s 66 = ofBytes ((List.range 28).map fun i => s (30 + i)) from h66).trans qK1
  have q67 : s 67 = 1 := ((show s 67 = farOf (mulN (s 0) (s 1) (s 66)) from h67).trans (by rw [q0, q1, q66])).trans f2
  have q68 : s 68 = K0 := (show s 68 = ofBytes ((List.range 28).map fun i => s (2 + i)) from h68).trans qK0
  have q69 : s 69 = 1 := (show s 69 = opVal 19 ([0] ++ [0]) from h69).trans (opVal_19 [0] [0] rfl)
  exact ⟨q59, q60, q61, q63, q65, q67, q69⟩
def ex12b : List Ex := [
.op 19 [.c 0, .c 0],
.op 25 [(.v 68), (.v 69), (.v 71)],
.op 2 (vsF 2),
.op 20 [(.v 68), (.v 69)],
.op 27 [(.v 0), (.v 1), (.v 66)],
.op 26 [(.v 0), (.v 1), (.v 66)],
.op 25 [(.v 0), (.v 1), (.v 66)],
.op 2 (vsF 30),
.op 20 [(.v 0), (.v 1)],
.op 2 (vsF 30),
.op 25 [(.v 0), (.v 1), (.v 62)],
.op 2 (vsF 2),
.op 20 [(.v 0), (.v 1)],
.feq (.v 59) (.c 0),
.op 20 [(.v 0), (.v 1)]]
def dec12b : List (Nat × Bool) := [(59, true), (60, false), (61, true), (63, true), (65, true), (67, false), (70, true), (72, true), (73, true)]
def st12b : St := startSt [.one (.sv 0 0 57 58), .agg (numsFrom .u8 2 28), .agg (numsFrom .u8 30 28)] [(0, ptRow 0 1)] 59 1
def br12b : BriefR := ⟨.ret, 74, ex12b, [], [.one (.lit (.bool true))], []⟩
theorem run12b : briefR (tabZ xt1) Try.f12 [] (runF (tabZ xt1) (fixN 27 1 dec12b []) 3000 Try.f12 st12b) = some br12b := by kernel_rfl
theorem law12b {s : Nums}  {c0 : Nat} {K0 : Nat} {K1 : Nat} {x0 y0 : Nat} (lx0 : x0 < pq) (ly0 : y0 < pq) (hon0 : onN x0 y0 = 1) {X2 Y2 : Nat} (lX2 : X2 < pq) (lY2 : Y2 < pq) (on2 : onN X2 Y2 = 1) (f1 : farOf (mulN x0 y0 K0) = 1) (f2 : farOf (mulN x0 y0 K1) = 0) (gx2 : xOf (mulN x0 y0 K1) = X2) (gy2 : yOf (mulN x0 y0 K1) = Y2) (f4 : farOf (mulN X2 Y2 K0) = 1) (q0 : s 0 = x0) (q1 : s 1 = y0) (q58 : s 58 = c0) (qK0 : ofBytes ((List.range 28).map fun i => s (2 + i)) = K0) (qK1 : ofBytes ((List.range 28).map fun i => s (30 + i)) = K1)  (h : Holds s 74 ex12b) : s 59 = 1 ∧ s 60 = 0 ∧ s 61 = 1 ∧ s 63 = 1 ∧ s 65 = 1 ∧ s 67 = 0 ∧ s 70 = 1 ∧ s 72 = 1 ∧ s 73 = 1 := by
  obtain ⟨h73, h72, h71, h70, h69, h68, h67, h66, h65, h64, h63, h62, h61, h60, h59, _⟩ := h
  have q59 : s 59 = 1 := ((show s 59 = onN (s 0) (s 1) from h59).trans (by rw [q0, q1])).trans hon0
  have q60 : s 60 = 0 := (show s 60 = if s 59 = 0 then 1 else 0 from h60).trans (if_neg (by rw [q59]; decide))
  have q61 : s 61 = 1 := ((show s 61 = onN (s 0) (s 1) from h61).trans (by rw [q0, q1])).trans hon0
  have q62 : s 62 = K0 := (show s 62 = ofBytes ((List.range 28).map fun i => s (2 + i)) from h62).trans qK0
  have q63 : s 63 = 1 := ((show s 63 = farOf (mulN (s 0) (s 1) (s 62)) from h63).trans (by rw [q0, q1, q62])).trans f1
  have q64 : s 64 = K1 := (show s 64 = ofBytes ((List.range 28).map fun i => s (30 + i)) from h64).trans qK1
  have q65 : s 65 = 1 := ((show s 65 = onN (s 0) (s 1) from h65).trans (by rw [q0, q1])).trans hon0
  have q66 : s 66 = K1 := (show s 66 = ofBytes ((List.range 28).map fun i => s (30 + i)) from h66).trans qK1
  have q67 : s 67 = 0 := ((show s 67 = farOf (mulN (s 0) (s 1) (s 66)) from h67).trans (by rw [q0, q1, q66])).trans f2
  have q68 : s 68 = X2 := ((show s 68 = xOf (mulN (s 0) (s 1) (s 66)) from h68).trans (by rw [q0, q1, q66])).trans gx2
  have q69 : s 69 = Y2 := ((show s 69 = yOf (mulN (s 0) (s 1) (s 66)) from h69).trans (by rw [q0, q1, q66])).trans gy2
  have q70 : s 70 = 1 := ((show s 70 = onN (s 68) (s 69) from h70).trans (by rw [q68, q69])).trans on2
  have q71 : s 71 = K0 := (show s 71 = ofBytes ((List.range 28).map fun i => s (2 + i)) from h71).trans qK0
  have q72 : s 72 = 1 := ((show s 72 = farOf (mulN (s 68) (s 69) (s 71)) from h72).trans (by rw [q68, q69, q71])).trans f4
  have q73 : s 73 = 1 := (show s 73 = opVal 19 ([0] ++ [0]) from h73).trans (opVal_19 [0] [0] rfl)
  exact ⟨q59, q60, q61, q63, q65, q67, q70, q72, q73⟩
def ex12c : List Ex := [
.op 19 [.c 0, .c 0],
.op 2 (vsF 2),
.op 25 [(.v 0), (.v 1), (.v 70)],
.op 2 (vsF 30),
.op 20 [(.v 0), (.v 1)],
.op 25 [(.v 64), (.v 65), (.v 67)],
.op 2 (vsF 30),
.op 20 [(.v 64), (.v 65)],
.op 27 [(.v 0), (.v 1), (.v 62)],
.op 26 [(.v 0), (.v 1), (.v 62)],
.op 25 [(.v 0), (.v 1), (.v 62)],
.op 2 (vsF 2),
.op 20 [(.v 0), (.v 1)],
.feq (.v 59) (.c 0),
.op 20 [(.v 0), (.v 1)]]
def dec12c : List (Nat × Bool) := [(59, true), (60, false), (61, true), (63, false), (66, true), (68, true), (69, true), (71, true), (73, true)]
def st12c : St := startSt [.one (.sv 0 0 57 58), .agg (numsFrom .u8 2 28), .agg (numsFrom .u8 30 28)] [(0, ptRow 0 1)] 59 1
def br12c : BriefR := ⟨.ret, 74, ex12c, [], [.one (.lit (.bool true))], []⟩
theorem run12c : briefR (tabZ xt1) Try.f12 [] (runF (tabZ xt1) (fixN 27 1 dec12c []) 3000 Try.f12 st12c) = some br12c := by kernel_rfl
theorem law12c {s : Nums}  {c0 : Nat} {K0 : Nat} {K1 : Nat} {x0 y0 : Nat} (lx0 : x0 < pq) (ly0 : y0 < pq) (hon0 : onN x0 y0 = 1) {X1 Y1 : Nat} (lX1 : X1 < pq) (lY1 : Y1 < pq) (on1 : onN X1 Y1 = 1) (f1 : farOf (mulN x0 y0 K0) = 0) (gx1 : xOf (mulN x0 y0 K0) = X1) (gy1 : yOf (mulN x0 y0 K0) = Y1) (f2 : farOf (mulN x0 y0 K1) = 1) (f3 : farOf (mulN X1 Y1 K1) = 1) (q0 : s 0 = x0) (q1 : s 1 = y0) (q58 : s 58 = c0) (qK0 : ofBytes ((List.range 28).map fun i => s (2 + i)) = K0) (qK1 : ofBytes ((List.range 28).map fun i => s (30 + i)) = K1)  (h : Holds s 74 ex12c) : s 59 = 1 ∧ s 60 = 0 ∧ s 61 = 1 ∧ s 63 = 0 ∧ s 66 = 1 ∧ s 68 = 1 ∧ s 69 = 1 ∧ s 71 = 1 ∧ s 73 = 1 := by
  obtain ⟨h73, h72, h71, h70, h69, h68, h67, h66, h65, h64, h63, h62, h61, h60, h59, _⟩ := h
  have q59 : s 59 = 1 := ((show s 59 = onN (s 0) (s 1) from h59).trans (by rw [q0, q1])).trans hon0
  have q60 : s 60 = 0 := (show s 60 = if s 59 = 0 then 1 else 0 from h60).trans (if_neg (by rw [q59]; decide))
  have q61 : s 61 = 1 := ((show s 61 = onN (s 0) (s 1) from h61).trans (by rw [q0, q1])).trans hon0
  have q62 : s 62 = K0 := (show s 62 = ofBytes ((List.range 28).map fun i => s (2 + i)) from h62).trans qK0
  have q63 : s 63 = 0 := ((show s 63 = farOf (mulN (s 0) (s 1) (s 62)) from h63).trans (by rw [q0, q1, q62])).trans f1
  have q64 : s 64 = X1 := ((show s 64 = xOf (mulN (s 0) (s 1) (s 62)) from h64).trans (by rw [q0, q1, q62])).trans gx1
  have q65 : s 65 = Y1 := ((show s 65 = yOf (mulN (s 0) (s 1) (s 62)) from h65).trans (by rw [q0, q1, q62])).trans gy1
  have q66 : s 66 = 1 := ((show s 66 = onN (s 64) (s 65) from h66).trans (by rw [q64, q65])).trans on1
  have q67 : s 67 = K1 := (show s 67 = ofBytes ((List.range 28).map fun i => s (30 + i)) from h67).trans qK1
  have q68 : s 68 = 1 := ((show s 68 = farOf (mulN (s 64) (s 65) (s 67)) from h68).trans (by rw [q64, q65, q67])).trans f3
  have q69 : s 69 = 1 := ((show s 69 = onN (s 0) (s 1) from h69).trans (by rw [q0, q1])).trans hon0
  have q70 : s 70 = K1 := (show s 70 = ofBytes ((List.range 28).map fun i => s (30 + i)) from h70).trans qK1
  have q71 : s 71 = 1 := ((show s 71 = farOf (mulN (s 0) (s 1) (s 70)) from h71).trans (by rw [q0, q1, q70])).trans f2
  have q72 : s 72 = K0 := (show s 72 = ofBytes ((List.range 28).map fun i => s (2 + i)) from h72).trans qK0
  have q73 : s 73 = 1 := (show s 73 = opVal 19 ([0] ++ [0]) from h73).trans (opVal_19 [0] [0] rfl)
  exact ⟨q59, q60, q61, q63, q66, q68, q69, q71, q73⟩
def ex12d : List Ex := [
.op 19 [.c 0, .c 0],
.op 25 [(.v 72), (.v 73), (.v 75)],
.op 2 (vsF 2),
.op 20 [(.v 72), (.v 73)],
.op 27 [(.v 0), (.v 1), (.v 70)],
.op 26 [(.v 0), (.v 1), (.v 70)],
.op 25 [(.v 0), (.v 1), (.v 70)],
.op 2 (vsF 30),
.op 20 [(.v 0), (.v 1)],
.op 25 [(.v 64), (.v 65), (.v 67)],
.op 2 (vsF 30),
.op 20 [(.v 64), (.v 65)],
.op 27 [(.v 0), (.v 1), (.v 62)],
.op 26 [(.v 0), (.v 1), (.v 62)],
.op 25 [(.v 0), (.v 1), (.v 62)],
.op 2 (vsF 2),
.op 20 [(.v 0), (.v 1)],
.feq (.v 59) (.c 0),
.op 20 [(.v 0), (.v 1)]]
def dec12d : List (Nat × Bool) := [(59, true), (60, false), (61, true), (63, false), (66, true), (68, true), (69, true), (71, false), (74, true), (76, true), (77, true)]
def st12d : St := startSt [.one (.sv 0 0 57 58), .agg (numsFrom .u8 2 28), .agg (numsFrom .u8 30 28)] [(0, ptRow 0 1)] 59 1
def br12d : BriefR := ⟨.ret, 78, ex12d, [], [.one (.lit (.bool true))], []⟩
theorem run12d : briefR (tabZ xt1) Try.f12 [] (runF (tabZ xt1) (fixN 27 1 dec12d []) 3000 Try.f12 st12d) = some br12d := by kernel_rfl
theorem law12d {s : Nums}  {c0 : Nat} {K0 : Nat} {K1 : Nat} {x0 y0 : Nat} (lx0 : x0 < pq) (ly0 : y0 < pq) (hon0 : onN x0 y0 = 1) {X1 Y1 : Nat} (lX1 : X1 < pq) (lY1 : Y1 < pq) (on1 : onN X1 Y1 = 1) {X2 Y2 : Nat} (lX2 : X2 < pq) (lY2 : Y2 < pq) (on2 : onN X2 Y2 = 1) (f1 : farOf (mulN x0 y0 K0) = 0) (gx1 : xOf (mulN x0 y0 K0) = X1) (gy1 : yOf (mulN x0 y0 K0) = Y1) (f2 : farOf (mulN x0 y0 K1) = 0) (gx2 : xOf (mulN x0 y0 K1) = X2) (gy2 : yOf (mulN x0 y0 K1) = Y2) (f3 : farOf (mulN X1 Y1 K1) = 1) (f4 : farOf (mulN X2 Y2 K0) = 1) (q0 : s 0 = x0) (q1 : s 1 = y0) (q58 : s 58 = c0) (qK0 : ofBytes ((List.range 28).map fun i => s (2 + i)) = K0) (qK1 : ofBytes ((List.range 28).map fun i => s (30 + i)) = K1)  (h : Holds s 78 ex12d) : s 59 = 1 ∧ s 60 = 0 ∧ s 61 = 1 ∧ s 63 = 0 ∧ s 66 = 1 ∧ s 68 = 1 ∧ s 69 = 1 ∧ s 71 = 0 ∧ s 74 = 1 ∧ s 76 = 1 ∧ s 77 = 1 := by
  obtain ⟨h77, h76, h75, h74, h73, h72, h71, h70, h69, h68, h67, h66, h65, h64, h63, h62, h61, h60, h59, _⟩ := h
  have q59 : s 59 = 1 := ((show s 59 = onN (s 0) (s 1) from h59).trans (by rw [q0, q1])).trans hon0
  have q60 : s 60 = 0 := (show s 60 = if s 59 = 0 then 1 else 0 from h60).trans (if_neg (by rw [q59]; decide))
  have q61 : s 61 = 1 := ((show s 61 = onN (s 0) (s 1) from h61).trans (by rw [q0, q1])).trans hon0
  have q62 : s 62 = K0 := (show s 62 = ofBytes ((List.range 28).map fun i => s (2 + i)) from h62).trans qK0
  have q63 : s 63 = 0 := ((show s 63 = farOf (mulN (s 0) (s 1) (s 62)) from h63).trans (by rw [q0, q1, q62])).trans f1
  have q64 : s 64 = X1 := ((show s 64 = xOf (mulN (s 0) (s 1) (s 62)) from h64).trans (by rw [q0, q1, q62])).trans gx1
  have q65 : s 65 = Y1 := ((show s 65 = yOf (mulN (s 0) (s 1) (s 62)) from h65).trans (by rw [q0, q1, q62])).trans gy1
  have q66 : s 66 = 1 := ((show s 66 = onN (s 64) (s 65) from h66).trans (by rw [q64, q65])).trans on1
  have q67 : s 67 = K1 := (show s 67 = ofBytes ((List.range 28).map fun i => s (30 + i)) from h67).trans qK1
  have q68 : s 68 = 1 := ((show s 68 = farOf (mulN (s 64) (s 65) (s 67)) from h68).trans (by rw [q64, q65, q67])).trans f3
  have q69 : s 69 = 1 := ((show s 69 = onN (s 0) (s 1) from h69).trans (by rw [q0, q1])).trans hon0
  have q70 : s 70 = K1 := (show s 70 = ofBytes ((List.range 28).map fun i => s (30 + i)) from h70).trans qK1
  have q71 : s 71 = 0 := ((show s 71 = farOf (mulN (s 0) (s 1) (s 70)) from h71).trans (by rw [q0, q1, q70])).trans f2
  have q72 : s 72 = X2 := ((show s 72 = xOf (mulN (s 0) (s 1) (s 70)) from h72).trans (by rw [q0, q1, q70])).trans gx2
  have q73 : s 73 = Y2 := ((show s 73 = yOf (mulN (s 0) (s 1) (s 70)) from h73).trans (by rw [q0, q1, q70])).trans gy2
  have q74 : s 74 = 1 := ((show s 74 = onN (s 72) (s 73) from h74).trans (by rw [q72, q73])).trans on2
  have q75 : s 75 = K0 := (show s 75 = ofBytes ((List.range 28).map fun i => s (2 + i)) from h75).trans qK0
  have q76 : s 76 = 1 := ((show s 76 = farOf (mulN (s 72) (s 73) (s 75)) from h76).trans (by rw [q72, q73, q75])).trans f4
  have q77 : s 77 = 1 := (show s 77 = opVal 19 ([0] ++ [0]) from h77).trans (opVal_19 [0] [0] rfl)
  exact ⟨q59, q60, q61, q63, q66, q68, q69, q71, q74, q76, q77⟩
def ex12e : List Ex := [
.feq (.v 82) (.c 0),
.op 20 [(.v 69), (.v 70)],
.op 19 ((Wd.c 4 :: (bs28 69 ++ bs28 70)) ++ (Wd.c 4 :: (bs28 79 ++ bs28 80))),
.op 27 [(.v 74), (.v 75), (.v 77)],
.op 26 [(.v 74), (.v 75), (.v 77)],
.op 25 [(.v 74), (.v 75), (.v 77)],
.op 2 (vsF 2),
.op 20 [(.v 74), (.v 75)],
.op 27 [(.v 0), (.v 1), (.v 72)],
.op 26 [(.v 0), (.v 1), (.v 72)],
.op 25 [(.v 0), (.v 1), (.v 72)],
.op 2 (vsF 30),
.op 20 [(.v 0), (.v 1)],
.op 27 [(.v 64), (.v 65), (.v 67)],
.op 26 [(.v 64), (.v 65), (.v 67)],
.op 25 [(.v 64), (.v 65), (.v 67)],
.op 2 (vsF 30),
.op 20 [(.v 64), (.v 65)],
.op 27 [(.v 0), (.v 1), (.v 62)],
.op 26 [(.v 0), (.v 1), (.v 62)],
.op 25 [(.v 0), (.v 1), (.v 62)],
.op 2 (vsF 2),
.op 20 [(.v 0), (.v 1)],
.feq (.v 59) (.c 0),
.op 20 [(.v 0), (.v 1)]]
def dec12e : List (Nat × Bool) := [(59, true), (60, false), (61, true), (63, false), (66, true), (68, false), (71, true), (73, false), (76, true), (78, false), (81, true), (82, true), (83, false)]
def st12e : St := startSt [.one (.sv 0 0 57 58), .agg (numsFrom .u8 2 28), .agg (numsFrom .u8 30 28)] [(0, ptRow 0 1)] 59 1
def br12e : BriefR := ⟨.ret, 84, ex12e, [], [.one (.lit (.bool true))], []⟩
theorem run12e : briefR (tabZ xt1) Try.f12 [] (runF (tabZ xt1) (fixN 27 1 dec12e []) 3000 Try.f12 st12e) = some br12e := by kernel_rfl
theorem law12e {s : Nums}  {c0 : Nat} {K0 : Nat} {K1 : Nat} {x0 y0 : Nat} (lx0 : x0 < pq) (ly0 : y0 < pq) (hon0 : onN x0 y0 = 1) {X1 Y1 : Nat} (lX1 : X1 < pq) (lY1 : Y1 < pq) (on1 : onN X1 Y1 = 1) {X2 Y2 : Nat} (lX2 : X2 < pq) (lY2 : Y2 < pq) (on2 : onN X2 Y2 = 1) {X3 Y3 : Nat} (lX3 : X3 < pq) (lY3 : Y3 < pq) (on3 : onN X3 Y3 = 1) (f1 : farOf (mulN x0 y0 K0) = 0) (gx1 : xOf (mulN x0 y0 K0) = X1) (gy1 : yOf (mulN x0 y0 K0) = Y1) (f2 : farOf (mulN x0 y0 K1) = 0) (gx2 : xOf (mulN x0 y0 K1) = X2) (gy2 : yOf (mulN x0 y0 K1) = Y2) (f3 : farOf (mulN X1 Y1 K1) = 0) (gx3 : xOf (mulN X1 Y1 K1) = X3) (gy3 : yOf (mulN X1 Y1 K1) = Y3) (f4 : farOf (mulN X2 Y2 K0) = 0) (gx4 : xOf (mulN X2 Y2 K0) = X3) (gy4 : yOf (mulN X2 Y2 K0) = Y3) (q0 : s 0 = x0) (q1 : s 1 = y0) (q58 : s 58 = c0) (qK0 : ofBytes ((List.range 28).map fun i => s (2 + i)) = K0) (qK1 : ofBytes ((List.range 28).map fun i => s (30 + i)) = K1)  (h : Holds s 84 ex12e) : s 59 = 1 ∧ s 60 = 0 ∧ s 61 = 1 ∧ s 63 = 0 ∧ s 66 = 1 ∧ s 68 = 0 ∧ s 71 = 1 ∧ s 73 = 0 ∧ s 76 = 1 ∧ s 78 = 0 ∧ s 81 = 1 ∧ s 82 = 1 ∧ s 83 = 0 := by
  obtain ⟨h83, h82, h81, h80, h79, h78, h77, h76, h75, h74, h73, h72, h71, h70, h69, h68, h67, h66, h65, h64, h63, h62, h61, h60, h59, _⟩ := h
  have q59 : s 59 = 1 := ((show s 59 = onN (s 0) (s 1) from h59).trans (by rw [q0, q1])).trans hon0
  have q60 : s 60 = 0 := (show s 60 = if s 59 = 0 then 1 else 0 from h60).trans (if_neg (by rw [q59]; decide))
  have q61 : s 61 = 1 := ((show s 61 = onN (s 0) (s 1) from h61).trans (by rw [q0, q1])).trans hon0
  have q62 : s 62 = K0 := (show s 62 = ofBytes ((List.range 28).map fun i => s (2 + i)) from h62).trans qK0
  have q63 : s 63 = 0 := ((show s 63 = farOf (mulN (s 0) (s 1) (s 62)) from h63).trans (by rw [q0, q1, q62])).trans f1
  have q64 : s 64 = X1 := ((show s 64 = xOf (mulN (s 0) (s 1) (s 62)) from h64).trans (by rw [q0, q1, q62])).trans gx1
  have q65 : s 65 = Y1 := ((show s 65 = yOf (mulN (s 0) (s 1) (s 62)) from h65).trans (by rw [q0, q1, q62])).trans gy1
  have q66 : s 66 = 1 := ((show s 66 = onN (s 64) (s 65) from h66).trans (by rw [q64, q65])).trans on1
  have q67 : s 67 = K1 := (show s 67 = ofBytes ((List.range 28).map fun i => s (30 + i)) from h67).trans qK1
  have q68 : s 68 = 0 := ((show s 68 = farOf (mulN (s 64) (s 65) (s 67)) from h68).trans (by rw [q64, q65, q67])).trans f3
  have q69 : s 69 = X3 := ((show s 69 = xOf (mulN (s 64) (s 65) (s 67)) from h69).trans (by rw [q64, q65, q67])).trans gx3
  have q70 : s 70 = Y3 := ((show s 70 = yOf (mulN (s 64) (s 65) (s 67)) from h70).trans (by rw [q64, q65, q67])).trans gy3
  have q71 : s 71 = 1 := ((show s 71 = onN (s 0) (s 1) from h71).trans (by rw [q0, q1])).trans hon0
  have q72 : s 72 = K1 := (show s 72 = ofBytes ((List.range 28).map fun i => s (30 + i)) from h72).trans qK1
  have q73 : s 73 = 0 := ((show s 73 = farOf (mulN (s 0) (s 1) (s 72)) from h73).trans (by rw [q0, q1, q72])).trans f2
  have q74 : s 74 = X2 := ((show s 74 = xOf (mulN (s 0) (s 1) (s 72)) from h74).trans (by rw [q0, q1, q72])).trans gx2
  have q75 : s 75 = Y2 := ((show s 75 = yOf (mulN (s 0) (s 1) (s 72)) from h75).trans (by rw [q0, q1, q72])).trans gy2
  have q76 : s 76 = 1 := ((show s 76 = onN (s 74) (s 75) from h76).trans (by rw [q74, q75])).trans on2
  have q77 : s 77 = K0 := (show s 77 = ofBytes ((List.range 28).map fun i => s (2 + i)) from h77).trans qK0
  have q78 : s 78 = 0 := ((show s 78 = farOf (mulN (s 74) (s 75) (s 77)) from h78).trans (by rw [q74, q75, q77])).trans f4
  have q79 : s 79 = X3 := ((show s 79 = xOf (mulN (s 74) (s 75) (s 77)) from h79).trans (by rw [q74, q75, q77])).trans gx4
  have q80 : s 80 = Y3 := ((show s 80 = yOf (mulN (s 74) (s 75) (s 77)) from h80).trans (by rw [q74, q75, q77])).trans gy4
  have q81 : s 81 = 1 := same_pts h81 (by rw [q69, q79]) (by rw [q70, q80])
  have q82 : s 82 = 1 := ((show s 82 = onN (s 69) (s 70) from h82).trans (by rw [q69, q70])).trans on3
  have q83 : s 83 = 0 := (show s 83 = if s 82 = 0 then 1 else 0 from h83).trans (if_neg (by rw [q82]; decide))
  exact ⟨q59, q60, q61, q63, q66, q68, q71, q73, q76, q78, q81, q82, q83⟩
theorem law12_good {w : World} {v : Value} (h1 : PtOf w v) {k0 : List Nat} (hk0 : Is28 k0) {k1 : List Nat} (hk1 : Is28 k1) : Law 12 w [v, arrV k0, arrV k1] := by
  rcases h1 with ⟨b0, o0, c0, rfl, hc0, hp0⟩ | ⟨b0, o0, c0, x0, y0, rfl, hc0, hp0, lx0, ly0, hon0⟩
  · have lt0 : b0 < w.heap.size := World.block_lt_of_cell? w _ hp0
    let S0 : Nums := fun i =>  if i < 28 then k0.getD (i - 0) 0 else if i < 56 then k1.getD (i - 28) 0 else  c0
    have ak0 : ∀ s : Nums, (∀ i, i < 57 → s i = S0 i) → ∀ m, m < 28 → s (0 + m) = k0.getD m 0 := fun s hs m hm => by
      rw [hs (0 + m) (by omega)]
      show ( if 0 + m < 28 then k0.getD (0 + m - 0) 0 else if 0 + m < 56 then k1.getD (0 + m - 28) 0 else  c0) = _
      rw [if_pos (by omega), show 0 + m - 0 = m by omega]
    have ak1 : ∀ s : Nums, (∀ i, i < 57 → s i = S0 i) → ∀ m, m < 28 → s (28 + m) = k1.getD m 0 := fun s hs m hm => by
      rw [hs (28 + m) (by omega)]
      show ( if 28 + m < 28 then k0.getD (28 + m - 0) 0 else if 28 + m < 56 then k1.getD (28 + m - 28) 0 else  c0) = _
      rw [if_neg (by omega), if_pos (by omega), show 28 + m - 28 = m by omega]
    refine calls_briefR (F := fixN 27 1 dec12f []) (tabZ_ok xt1_ok) run12f Try.func12 Try.ntmps12 rfl (by decide +kernel) (by decide +kernel) (by decide +kernel) (show 3 ≤ 27 by decide) (show 3 < 4095 by decide) S0 (fun r =>  (b0, o0))
      (vals := [_, arrV k0, arrV k1]) (fun s hs => ⟨⟨by rw [hs 56 (by decide)]; rfl, by rw [hs 56 (by decide)]; exact hc0, show 0 < 1 by decide⟩, agg_rep hk0 (ak0 s hs), agg_rep hk1 (ak1 s hs), trivial⟩) (fun s hs => ⟨show 0 < 1 by decide, ⟨⟨_, hp0, rfl⟩, trivial⟩, trivial⟩) (fun r l hl hr => by cases hr) (fun r _ => lt0) (fun r q _ _ h => by cases h) ?_ ?_
    · intro s hs hH i bb hb
      have q61 := law12f (c0 := c0) (K0 := ofBytes k0) (K1 := ofBytes k1)  (hs 56 (by decide)) (kb_of hk0 (ak0 s hs)) (kb_of hk1 (ak1 s hs)) hH
      have := findT_mem (show findT i dec12f = some bb from hb)
      simp only [dec12f, List.mem_cons, List.not_mem_nil, or_false, Prod.mk.injEq] at this
      obtain ⟨rfl, rfl⟩ := this
      assumption
    · intro s hs hH st' β' a' w' v hv hm hag hr hbe
      have hv' : v = .bool true := hv
      exact ⟨by rw [hv'], hbe⟩
  · have lt0 : b0 < w.heap.size := World.block_lt_of_cell? w _ (hp0 0 4 rfl)
    have turn : nsmul (ofBytes k1) (mulN x0 y0 (ofBytes k0)) = nsmul (ofBytes k0) (mulN x0 y0 (ofBytes k1)) := nsmul_turn fine (onN_on hon0) _ _
    rcases mul_cases hon0 (ofBytes k0) with ⟨f1, e1⟩ | ⟨X1, Y1, f1, gx1, gy1, lX1, lY1, on1, e1⟩
    · rcases mul_cases hon0 (ofBytes k1) with ⟨f2, e2⟩ | ⟨X2, Y2, f2, gx2, gy2, lX2, lY2, on2, e2⟩
      · skip
        let S0 : Nums := fun i => if i = 0 then x0 else if i = 1 then y0 else if i < 30 then k0.getD (i - 2) 0 else if i < 58 then k1.getD (i - 30) 0 else  c0
        have ak0 : ∀ s : Nums, (∀ i, i < 59 → s i = S0 i) → ∀ m, m < 28 → s (2 + m) = k0.getD m 0 := fun s hs m hm => by
          rw [hs (2 + m) (by omega)]
          show (if 2 + m = 0 then x0 else if 2 + m = 1 then y0 else if 2 + m < 30 then k0.getD (2 + m - 2) 0 else if 2 + m < 58 then k1.getD (2 + m - 30) 0 else  c0) = _
          rw [if_neg (by omega), if_neg (by omega), if_pos (by omega), show 2 + m - 2 = m by omega]
        have ak1 : ∀ s : Nums, (∀ i, i < 59 → s i = S0 i) → ∀ m, m < 28 → s (30 + m) = k1.getD m 0 := fun s hs m hm => by
          rw [hs (30 + m) (by omega)]
          show (if 30 + m = 0 then x0 else if 30 + m = 1 then y0 else if 30 + m < 30 then k0.getD (30 + m - 2) 0 else if 30 + m < 58 then k1.getD (30 + m - 30) 0 else  c0) = _
          rw [if_neg (by omega), if_neg (by omega), if_neg (by omega), if_pos (by omega), show 30 + m - 30 = m by omega]
        refine calls_briefR (F := fixN 27 1 dec12a []) (tabZ_ok xt1_ok) run12a Try.func12 Try.ntmps12 rfl (by decide +kernel) (by decide +kernel) (by decide +kernel) (show 3 ≤ 27 by decide) (show 3 < 4095 by decide) S0 (fun r =>  (b0, o0))
          (vals := [_, arrV k0, arrV k1]) (fun s hs => ⟨⟨by rw [hs 58 (by decide)]; rfl, by rw [hs 58 (by decide)]; exact hc0, show 0 < 1 by decide⟩, agg_rep hk0 (ak0 s hs), agg_rep hk1 (ak1 s hs), trivial⟩) (fun s hs => ⟨show 0 < 1 by decide, ptRow_row rfl hp0 (hs 0 (by decide)) (hs 1 (by decide)) lx0 ly0, trivial⟩) (fun r l hl hr => by cases hr) (fun r _ => lt0) (fun r q _ _ h => by cases h) ?_ ?_
        · intro s hs hH i bb hb
          obtain ⟨q59, q60, q61, q63, q65, q67, q69⟩ := law12a (c0 := c0) (K0 := ofBytes k0) (K1 := ofBytes k1) (x0 := x0) (y0 := y0) lx0 ly0 hon0 f1 f2 (hs 0 (by decide)) (hs 1 (by decide)) (hs 58 (by decide)) (kb_of hk0 (ak0 s hs)) (kb_of hk1 (ak1 s hs)) hH
          have := findT_mem (show findT i dec12a = some bb from hb)
          simp only [dec12a, List.mem_cons, List.not_mem_nil, or_false, Prod.mk.injEq] at this
          rcases this with ⟨rfl, rfl⟩ | ⟨rfl, rfl⟩ | ⟨rfl, rfl⟩ | ⟨rfl, rfl⟩ | ⟨rfl, rfl⟩ | ⟨rfl, rfl⟩ | ⟨rfl, rfl⟩ <;> assumption
        · intro s hs hH st' β' a' w' v hv hm hag hr hbe
          have hv' : v = .bool true := hv
          exact ⟨by rw [hv'], hbe⟩
      · have f4 : farOf (mulN X2 Y2 (ofBytes k0)) = 1 := is_far (by rw [e1, e2, nsmul_far] at turn; exact turn.symm)
        let S0 : Nums := fun i => if i = 0 then x0 else if i = 1 then y0 else if i < 30 then k0.getD (i - 2) 0 else if i < 58 then k1.getD (i - 30) 0 else  c0
        have ak0 : ∀ s : Nums, (∀ i, i < 59 → s i = S0 i) → ∀ m, m < 28 → s (2 + m) = k0.getD m 0 := fun s hs m hm => by
          rw [hs (2 + m) (by omega)]
          show (if 2 + m = 0 then x0 else if 2 + m = 1 then y0 else if 2 + m < 30 then k0.getD (2 + m - 2) 0 else if 2 + m < 58 then k1.getD (2 + m - 30) 0 else  c0) = _
          rw [if_neg (by omega), if_neg (by omega), if_pos (by omega), show 2 + m - 2 = m by omega]
        have ak1 : ∀ s : Nums, (∀ i, i < 59 → s i = S0 i) → ∀ m, m < 28 → s (30 + m) = k1.getD m 0 := fun s hs m hm => by
          rw [hs (30 + m) (by omega)]
          show (if 30 + m = 0 then x0 else if 30 + m = 1 then y0 else if 30 + m < 30 then k0.getD (30 + m - 2) 0 else if 30 + m < 58 then k1.getD (30 + m - 30) 0 else  c0) = _
          rw [if_neg (by omega), if_neg (by omega), if_neg (by omega), if_pos (by omega), show 30 + m - 30 = m by omega]
        refine calls_briefR (F := fixN 27 1 dec12b []) (tabZ_ok xt1_ok) run12b Try.func12 Try.ntmps12 rfl (by decide +kernel) (by decide +kernel) (by decide +kernel) (show 3 ≤ 27 by decide) (show 3 < 4095 by decide) S0 (fun r =>  (b0, o0))
          (vals := [_, arrV k0, arrV k1]) (fun s hs => ⟨⟨by rw [hs 58 (by decide)]; rfl, by rw [hs 58 (by decide)]; exact hc0, show 0 < 1 by decide⟩, agg_rep hk0 (ak0 s hs), agg_rep hk1 (ak1 s hs), trivial⟩) (fun s hs => ⟨show 0 < 1 by decide, ptRow_row rfl hp0 (hs 0 (by decide)) (hs 1 (by decide)) lx0 ly0, trivial⟩) (fun r l hl hr => by cases hr) (fun r _ => lt0) (fun r q _ _ h => by cases h) ?_ ?_
        · intro s hs hH i bb hb
          obtain ⟨q59, q60, q61, q63, q65, q67, q70, q72, q73⟩ := law12b (c0 := c0) (K0 := ofBytes k0) (K1 := ofBytes k1) (x0 := x0) (y0 := y0) lx0 ly0 hon0 lX2 lY2 on2 f1 f2 gx2 gy2 f4 (hs 0 (by decide)) (hs 1 (by decide)) (hs 58 (by decide)) (kb_of hk0 (ak0 s hs)) (kb_of hk1 (ak1 s hs)) hH
          have := findT_mem (show findT i dec12b = some bb from hb)
          simp only [dec12b, List.mem_cons, List.not_mem_nil, or_false, Prod.mk.injEq] at this
          rcases this with ⟨rfl, rfl⟩ | ⟨rfl, rfl⟩ | ⟨rfl, rfl⟩ | ⟨rfl, rfl⟩ | ⟨rfl, rfl⟩ | ⟨rfl, rfl⟩ | ⟨rfl, rfl⟩ | ⟨rfl, rfl⟩ | ⟨rfl, rfl⟩ <;> assumption
        · intro s hs hH st' β' a' w' v hv hm hag hr hbe
          have hv' : v = .bool true := hv
          exact ⟨by rw [hv'], hbe⟩
    · rcases mul_cases hon0 (ofBytes k1) with ⟨f2, e2⟩ | ⟨X2, Y2, f2, gx2, gy2, lX2, lY2, on2, e2⟩
      · have f3 : farOf (mulN X1 Y1 (ofBytes k1)) = 1 := is_far (by rw [e1, e2, nsmul_far] at turn; exact turn)
        let S0 : Nums := fun i => if i = 0 then x0 else if i = 1 then y0 else if i < 30 then k0.getD (i - 2) 0 else if i < 58 then k1.getD (i - 30) 0 else  c0
        have ak0 : ∀ s : Nums, (∀ i, i < 59 → s i = S0 i) → ∀ m, m < 28 → s (2 + m) = k0.getD m 0 := fun s hs m hm => by
          rw [hs (2 + m) (by omega)]
          show (if 2 + m = 0 then x0 else if 2 + m = 1 then y0 else if 2 + m < 30 then k0.getD (2 + m - 2) 0 else if 2 + m < 58 then k1.getD (2 + m - 30) 0 else  c0) = _
          rw [if_neg (by omega), if_neg (by omega), if_pos (by omega), show 2 + m - 2 = m by omega]
        have ak1 : ∀ s : Nums, (∀ i, i < 59 → s i = S0 i) → ∀ m, m < 28 → s (30 + m) = k1.getD m 0 := fun s hs m hm => by
          rw [hs (30 + m) (by omega)]
          show (if 30 + m = 0 then x0 else if 30 + m = 1 then y0 else if 30 + m < 30 then k0.getD (30 + m - 2) 0 else if 30 + m < 58 then k1.getD (30 + m - 30) 0 else  c0) = _
          rw [if_neg (by omega), if_neg (by omega), if_neg (by omega), if_pos (by omega), show 30 + m - 30 = m by omega]
        refine calls_briefR (F := fixN 27 1 dec12c []) (tabZ_ok xt1_ok) run12c Try.func12 Try.ntmps12 rfl (by decide +kernel) (by decide +kernel) (by decide +kernel) (show 3 ≤ 27 by decide) (show 3 < 4095 by decide) S0 (fun r =>  (b0, o0))
          (vals := [_, arrV k0, arrV k1]) (fun s hs => ⟨⟨by rw [hs 58 (by decide)]; rfl, by rw [hs 58 (by decide)]; exact hc0, show 0 < 1 by decide⟩, agg_rep hk0 (ak0 s hs), agg_rep hk1 (ak1 s hs), trivial⟩) (fun s hs => ⟨show 0 < 1 by decide, ptRow_row rfl hp0 (hs 0 (by decide)) (hs 1 (by decide)) lx0 ly0, trivial⟩) (fun r l hl hr => by cases hr) (fun r _ => lt0) (fun r q _ _ h => by cases h) ?_ ?_
        · intro s hs hH i bb hb
          obtain ⟨q59, q60, q61, q63, q66, q68, q69, q71, q73⟩ := law12c (c0 := c0) (K0 := ofBytes k0) (K1 := ofBytes k1) (x0 := x0) (y0 := y0) lx0 ly0 hon0 lX1 lY1 on1 f1 gx1 gy1 f2 f3 (hs 0 (by decide)) (hs 1 (by decide)) (hs 58 (by decide)) (kb_of hk0 (ak0 s hs)) (kb_of hk1 (ak1 s hs)) hH
          have := findT_mem (show findT i dec12c = some bb from hb)
          simp only [dec12c, List.mem_cons, List.not_mem_nil, or_false, Prod.mk.injEq] at this
          rcases this with ⟨rfl, rfl⟩ | ⟨rfl, rfl⟩ | ⟨rfl, rfl⟩ | ⟨rfl, rfl⟩ | ⟨rfl, rfl⟩ | ⟨rfl, rfl⟩ | ⟨rfl, rfl⟩ | ⟨rfl, rfl⟩ | ⟨rfl, rfl⟩ <;> assumption
        · intro s hs hH st' β' a' w' v hv hm hag hr hbe
          have hv' : v = .bool true := hv
          exact ⟨by rw [hv'], hbe⟩
      · have t2 : mulN X1 Y1 (ofBytes k1) = mulN X2 Y2 (ofBytes k0) := by rw [e1, e2] at turn; exact turn
        rcases mul_cases on1 (ofBytes k1) with ⟨f3, e3⟩ | ⟨X3, Y3, f3, gx3, gy3, lX3, lY3, on3, e3⟩
        · have f4 : farOf (mulN X2 Y2 (ofBytes k0)) = 1 := is_far (t2.symm.trans e3)
          let S0 : Nums := fun i => if i = 0 then x0 else if i = 1 then y0 else if i < 30 then k0.getD (i - 2) 0 else if i < 58 then k1.getD (i - 30) 0 else  c0
          have ak0 : ∀ s : Nums, (∀ i, i < 59 → s i = S0 i) → ∀ m, m < 28 → s (2 + m) = k0.getD m 0 := fun s hs m hm => by
            rw [hs (2 + m) (by omega)]
            show (if 2 + m = 0 then x0 else if 2 + m = 1 then y0 else if 2 + m < 30 then k0.getD (2 + m - 2) 0 else if 2 + m < 58 then k1.getD (2 + m - 30) 0 else  c0) = _
            rw [if_neg (by omega), if_neg (by omega), if_pos (by omega), show 2 + m - 2 = m by omega]
          have ak1 : ∀ s : Nums, (∀ i, i < 59 → s i = S0 i) → ∀ m, m < 28 → s (30 + m) = k1.getD m 0 := fun s hs m hm => by
            rw [hs (30 + m) (by omega)]
            show (if 30 + m = 0 then x0 else if 30 + m = 1 then y0 else if 30 + m < 30 then k0.getD (30 + m - 2) 0 else if 30 + m < 58 then k1.getD (30 + m - 30) 0 else  c0) = _
            rw [if_neg (by omega), if_neg (by omega), if_neg (by omega), if_pos (by omega), show 30 + m - 30 = m by omega]
          refine calls_briefR (F := fixN 27 1 dec12d []) (tabZ_ok xt1_ok) run12d Try.func12 Try.ntmps12 rfl (by decide +kernel) (by decide +kernel) (by decide +kernel) (show 3 ≤ 27 by decide) (show 3 < 4095 by decide) S0 (fun r =>  (b0, o0))
            (vals := [_, arrV k0, arrV k1]) (fun s hs => ⟨⟨by rw [hs 58 (by decide)]; rfl, by rw [hs 58 (by decide)]; exact hc0, show 0 < 1 by decide⟩, agg_rep hk0 (ak0 s hs), agg_rep hk1 (ak1 s hs), trivial⟩) (fun s hs => ⟨show 0 < 1 by decide, ptRow_row rfl hp0 (hs 0 (by decide)) (hs 1 (by decide)) lx0 ly0, trivial⟩) (fun r l hl hr => by cases hr) (fun r _ => lt0) (fun r q _ _ h => by cases h) ?_ ?_
          · intro s hs hH i bb hb
            obtain ⟨q59, q60, q61, q63, q66, q68, q69, q71, q74, q76, q77⟩ := law12d (c0 := c0) (K0 := ofBytes k0) (K1 := ofBytes k1) (x0 := x0) (y0 := y0) lx0 ly0 hon0 lX1 lY1 on1 lX2 lY2 on2 f1 gx1 gy1 f2 gx2 gy2 f3 f4 (hs 0 (by decide)) (hs 1 (by decide)) (hs 58 (by decide)) (kb_of hk0 (ak0 s hs)) (kb_of hk1 (ak1 s hs)) hH
            have := findT_mem (show findT i dec12d = some bb from hb)
            simp only [dec12d, List.mem_cons, List.not_mem_nil, or_false, Prod.mk.injEq] at this
            rcases this with ⟨rfl, rfl⟩ | ⟨rfl, rfl⟩ | ⟨rfl, rfl⟩ | ⟨rfl, rfl⟩ | ⟨rfl, rfl⟩ | ⟨rfl, rfl⟩ | ⟨rfl, rfl⟩ | ⟨rfl, rfl⟩ | ⟨rfl, rfl⟩ | ⟨rfl, rfl⟩ | ⟨rfl, rfl⟩ <;> assumption
          · intro s hs hH st' β' a' w' v hv hm hag hr hbe
            have hv' : v = .bool true := hv
            exact ⟨by rw [hv'], hbe⟩
        · obtain ⟨f4, gx4, gy4⟩ := is_pt (t2.symm.trans e3) lX3 lY3
          let S0 : Nums := fun i => if i = 0 then x0 else if i = 1 then y0 else if i < 30 then k0.getD (i - 2) 0 else if i < 58 then k1.getD (i - 30) 0 else  c0
          have ak0 : ∀ s : Nums, (∀ i, i < 59 → s i = S0 i) → ∀ m, m < 28 → s (2 + m) = k0.getD m 0 := fun s hs m hm => by
            rw [hs (2 + m) (by omega)]
            show (if 2 + m = 0 then x0 else if 2 + m = 1 then y0 else if 2 + m < 30 then k0.getD (2 + m - 2) 0 else if 2 + m < 58 then k1.getD (2 + m - 30) 0 else  c0) = _
            rw [if_neg (by omega), if_neg (by omega), if_pos (by omega), show 2 + m - 2 = m by omega]
          have ak1 : ∀ s : Nums, (∀ i, i < 59 → s i = S0 i) → ∀ m, m < 28 → s (30 + m) = k1.getD m 0 := fun s hs m hm => by
            rw [hs (30 + m) (by omega)]
            show (if 30 + m = 0 then x0 else if 30 + m = 1 then y0 else if 30 + m < 30 then k0.getD (30 + m - 2) 0 else if 30 + m < 58 then k1.getD (30 + m - 30) 0 else  c0) = _
            rw [if_neg (by omega), if_neg (by omega), if_neg (by omega), if_pos (by omega), show 30 + m - 30 = m by omega]
          refine calls_briefR (F := fixN 27 1 dec12e []) (tabZ_ok xt1_ok) run12e Try.func12 Try.ntmps12 rfl (by decide +kernel) (by decide +kernel) (by decide +kernel) (show 3 ≤ 27 by decide) (show 3 < 4095 by decide) S0 (fun r =>  (b0, o0))
            (vals := [_, arrV k0, arrV k1]) (fun s hs => ⟨⟨by rw [hs 58 (by decide)]; rfl, by rw [hs 58 (by decide)]; exact hc0, show 0 < 1 by decide⟩, agg_rep hk0 (ak0 s hs), agg_rep hk1 (ak1 s hs), trivial⟩) (fun s hs => ⟨show 0 < 1 by decide, ptRow_row rfl hp0 (hs 0 (by decide)) (hs 1 (by decide)) lx0 ly0, trivial⟩) (fun r l hl hr => by cases hr) (fun r _ => lt0) (fun r q _ _ h => by cases h) ?_ ?_
          · intro s hs hH i bb hb
            obtain ⟨q59, q60, q61, q63, q66, q68, q71, q73, q76, q78, q81, q82, q83⟩ := law12e (c0 := c0) (K0 := ofBytes k0) (K1 := ofBytes k1) (x0 := x0) (y0 := y0) lx0 ly0 hon0 lX1 lY1 on1 lX2 lY2 on2 lX3 lY3 on3 f1 gx1 gy1 f2 gx2 gy2 f3 gx3 gy3 f4 gx4 gy4 (hs 0 (by decide)) (hs 1 (by decide)) (hs 58 (by decide)) (kb_of hk0 (ak0 s hs)) (kb_of hk1 (ak1 s hs)) hH
            have := findT_mem (show findT i dec12e = some bb from hb)
            simp only [dec12e, List.mem_cons, List.not_mem_nil, or_false, Prod.mk.injEq] at this
            rcases this with ⟨rfl, rfl⟩ | ⟨rfl, rfl⟩ | ⟨rfl, rfl⟩ | ⟨rfl, rfl⟩ | ⟨rfl, rfl⟩ | ⟨rfl, rfl⟩ | ⟨rfl, rfl⟩ | ⟨rfl, rfl⟩ | ⟨rfl, rfl⟩ | ⟨rfl, rfl⟩ | ⟨rfl, rfl⟩ | ⟨rfl, rfl⟩ | ⟨rfl, rfl⟩ <;> assumption
          · intro s hs hH st' β' a' w' v hv hm hag hr hbe
            have hv' : v = .bool true := hv
            exact ⟨by rw [hv'], hbe⟩
theorem law12_all {w : World} {v : Value} {b o n u d f : Nat} (h : Sl w v b o n u d f) {k0 : List Nat} (hk0 : Is28 k0) {k1 : List Nat} (hk1 : Is28 k1) : Law 12 w (v :: [arrV k0, arrV k1]) := by
  by_cases hb : 2147483647 < n ∨ f = 0
  · exact law_one_x (tabZ_ok xt1_ok) (n0 := 60) (vs := [arrV k0, arrV k1]) (by decide) (fun i => if i < 32 then k0.getD (i - 4) 0 else if i < 60 then k1.getD (i - 32) 0 else 0) run12b1 run12b2 Try.func12 Try.ntmps12 (by decide +kernel) (by decide +kernel) (by decide) (by decide) (fun s β hs => ⟨agg_rep hk0 (fun m hm => by
      rw [hs (4 + m) (by omega) (by omega)]
      show (if 4 + m < 32 then k0.getD (4 + m - 4) 0 else if 4 + m < 60 then k1.getD (4 + m - 32) 0 else 0) = _
      rw [if_pos (by omega), show 4 + m - 4 = m by omega]), agg_rep hk1 (fun m hm => by
      rw [hs (32 + m) (by omega) (by omega)]
      show (if 32 + m < 32 then k0.getD (32 + m - 4) 0 else if 32 + m < 60 then k1.getD (32 + m - 32) 0 else 0) = _
      rw [if_neg (by omega), if_pos (by omega), show 32 + m - 32 = m by omega]), trivial⟩) h hb
  · have hf : f = 1 := by have := h.flag.le; omega
    subst hf
    exact law12_good h.point hk0 hk1
end P224
