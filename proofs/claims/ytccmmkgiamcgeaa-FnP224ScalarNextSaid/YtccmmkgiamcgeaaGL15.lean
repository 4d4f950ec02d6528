/- Law ScalarNext. PRINTED BY A PROGRAM OF MY OWN (gen/mkL15.py). -/
import Derived.Test.YtccmmkgiamcgeaaGY4
set_option linter.all false
namespace P224
open Go Go.RowKit Go.Proofs
set_option maxRecDepth 100000
set_option linter.unusedVariables false
theorem run15b1 : briefR (tabZ xt2) Try.f15 [] (runF (tabZ xt2) (fixN 35 1 [(32, true)] [(0, (0, 3))]) 3000 Try.f15 (startSt (.one (.sy 0 0) :: [.agg (numsFrom .u8 4 28)]) [] 32 1)) = some ⟨.ret, 33, [lenE 0], [], [.one (.lit (.bool true))], []⟩ := by kernel_rfl
theorem run15b2 : briefR (tabZ xt2) Try.f15 [] (runF (tabZ xt2) (fixN 35 1 [(32, false), (65, true)] [(0, (0, 3))]) 3000 Try.f15 (startSt (.one (.sy 0 0) :: [.agg (numsFrom .u8 4 28)]) [] 32 1)) = some ⟨.ret, 66, moreF 32 (vsF 4) (List.replicate 27 (.c 0) ++ [.c 1]), [], [.one (.lit (.bool true))], []⟩ := by kernel_rfl
theorem run15b3 : briefR (tabZ xt2) Try.f15 [] (runF (tabZ xt2) (fixN 35 1 [(32, false), (65, false), (3, false), (66, true)] [(0, (0, 3))]) 3000 Try.f15 (startSt (.one (.sy 0 0) :: [.agg (numsFrom .u8 4 28)]) [] 32 1)) = some ⟨.ret, 67, .feq (.v 3) (.c 0) :: moreF 32 (vsF 4) (List.replicate 27 (.c 0) ++ [.c 1]), [], [.one (.lit (.bool true))], []⟩ := by kernel_rfl
def ex15f : List Ex := [
.op 19 [.c 0, .c 0],
.op 2 (vsF 0),
.op 2 (vsF 33),
.feq (.v 32) (.c 0),
.op 32 [(.v 31), (.c 0)],
.op 32 [(.v 31), (.c 1)],
.op 32 [(.v 31), (.c 2)],
.op 32 [(.v 31), (.c 3)],
.op 32 [(.v 31), (.c 4)],
.op 32 [(.v 31), (.c 5)],
.op 32 [(.v 31), (.c 6)],
.op 32 [(.v 31), (.c 7)],
.op 32 [(.v 31), (.c 8)],
.op 32 [(.v 31), (.c 9)],
.op 32 [(.v 31), (.c 10)],
.op 32 [(.v 31), (.c 11)],
.op 32 [(.v 31), (.c 12)],
.op 32 [(.v 31), (.c 13)],
.op 32 [(.v 31), (.c 14)],
.op 32 [(.v 31), (.c 15)],
.op 32 [(.v 31), (.c 16)],
.op 32 [(.v 31), (.c 17)],
.op 32 [(.v 31), (.c 18)],
.op 32 [(.v 31), (.c 19)],
.op 32 [(.v 31), (.c 20)],
.op 32 [(.v 31), (.c 21)],
.op 32 [(.v 31), (.c 22)],
.op 32 [(.v 31), (.c 23)],
.op 32 [(.v 31), (.c 24)],
.op 32 [(.v 31), (.c 25)],
.op 32 [(.v 31), (.c 26)],
.op 32 [(.v 31), (.c 27)],
.op 31 [(.v 29), (.v 30)],
.op 30 [(.v 29), (.v 30)],
.op 2 (List.replicate 27 (.c 0) ++ [.c 1]),
.op 2 (vsF 0)]
def dec15f : List (Nat × Bool) := [(32, true), (61, false), (64, true)]
def st15f : St := startSt [.one (.sv 0 0 1 28), .agg (numsFrom .u8 0 28)] [(0, [.lit (.int .u8 0)])] 29 1
def br15f : BriefR := ⟨.ret, 65, ex15f, [], [.one (.lit (.bool true))], []⟩
theorem run15f : briefR (tabZ xt2) Try.f15 [] (runF (tabZ xt2) (fixN 35 1 dec15f []) 3000 Try.f15 st15f) = some br15f := by kernel_rfl
theorem law15f {s : Nums}  {c0 : Nat} {K0 : Nat} {S : Nat} (hS : (K0 + 1) % 2 ^ 224 = S) (lS : S < 2 ^ 224) (hlt : K0 + 1 < 2 ^ 224) (q28 : s 28 = c0) (qK0 : ofBytes ((List.range 28).map fun i => s (0 + i)) = K0)  (h : Holds s 65 ex15f) : s 32 = 1 ∧ s 61 = 0 ∧ s 64 = 1 := by
  obtain ⟨h64, h63, h62, h61, h60, h59, h58, h57, h56, h55, h54, h53, h52, h51, h50, h49, h48, h47, h46, h45, h44, h43, h42, h41, h40, h39, h38, h37, h36, h35, h34, h33, h32, h31, h30, h29, _⟩ := h
  have q29 : s 29 = K0 := (show s 29 = ofBytes ((List.range 28).map fun i => s (0 + i)) from h29).trans qK0
  have q30 : s 30 = 1 := (show s 30 = ofBytes (List.replicate 27 0 ++ [1]) from h30).trans (by decide +kernel)
  have q31 : s 31 = S := (show s 31 = (s 29 + s 30) % 2 ^ 224 from h31).trans (by rw [q29, q30]; exact hS)
  have q32 : s 32 = 1 := (show s 32 = if s 29 + s 30 < 2 ^ 224 then 1 else 0 from h32).trans (if_pos (by rw [q29, q30]; exact hlt))
  have q61 : s 61 = 0 := (show s 61 = if s 32 = 0 then 1 else 0 from h61).trans (if_neg (by rw [q32]; decide))
  have B33 : ∀ i, i < 28 → s (33 + i) = by8 (27 - i) (s 31) := fun i hi => by
    rcases cases28 hi with rfl | rfl | rfl | rfl | rfl | rfl | rfl | rfl | rfl | rfl | rfl | rfl | rfl | rfl | rfl | rfl | rfl | rfl | rfl | rfl | rfl | rfl | rfl | rfl | rfl | rfl | rfl | rfl
    · exact h33
    · exact h34
    · exact h35
    · exact h36
    · exact h37
    · exact h38
    · exact h39
    · exact h40
    · exact h41
    · exact h42
    · exact h43
    · exact h44
    · exact h45
    · exact h46
    · exact h47
    · exact h48
    · exact h49
    · exact h50
    · exact h51
    · exact h52
    · exact h53
    · exact h54
    · exact h55
    · exact h56
    · exact h57
    · exact h58
    · exact h59
    · exact h60
  have q62 : s 62 = S := (show s 62 = ofBytes ((List.range 28).map fun i => s (33 + i)) from h62).trans ((bytes_back28 B33 (by rw [q31]; exact lS)).trans q31)
  have q63 : s 63 = K0 := (show s 63 = ofBytes ((List.range 28).map fun i => s (0 + i)) from h63).trans qK0
  have q64 : s 64 = 1 := (show s 64 = opVal 19 ([0] ++ [0]) from h64).trans (opVal_19 [0] [0] rfl)
  exact ⟨q32, q61, q64⟩
def ex15b : List Ex := [
.op 19 [.c 0, .c 0],
.op 21 [(.v 72), (.v 73), (.v 0), (.v 1)],
.op 20 [(.v 0), (.v 1)],
.op 20 [(.v 72), (.v 73)],
.op 27 [(.v 0), (.v 1), (.v 70)],
.op 26 [(.v 0), (.v 1), (.v 70)],
.op 25 [(.v 0), (.v 1), (.v 70)],
.op 2 (vsF 2),
.op 20 [(.v 0), (.v 1)],
.op 25 [(.v 0), (.v 1), (.v 67)],
.op 2 (vsF 35),
.op 20 [(.v 0), (.v 1)],
.feq (.v 64) (.c 0),
.op 20 [(.v 0), (.v 1)],
.feq (.v 34) (.c 0),
.op 32 [(.v 33), (.c 0)],
.op 32 [(.v 33), (.c 1)],
.op 32 [(.v 33), (.c 2)],
.op 32 [(.v 33), (.c 3)],
.op 32 [(.v 33), (.c 4)],
.op 32 [(.v 33), (.c 5)],
.op 32 [(.v 33), (.c 6)],
.op 32 [(.v 33), (.c 7)],
.op 32 [(.v 33), (.c 8)],
.op 32 [(.v 33), (.c 9)],
.op 32 [(.v 33), (.c 10)],
.op 32 [(.v 33), (.c 11)],
.op 32 [(.v 33), (.c 12)],
.op 32 [(.v 33), (.c 13)],
.op 32 [(.v 33), (.c 14)],
.op 32 [(.v 33), (.c 15)],
.op 32 [(.v 33), (.c 16)],
.op 32 [(.v 33), (.c 17)],
.op 32 [(.v 33), (.c 18)],
.op 32 [(.v 33), (.c 19)],
.op 32 [(.v 33), (.c 20)],
.op 32 [(.v 33), (.c 21)],
.op 32 [(.v 33), (.c 22)],
.op 32 [(.v 33), (.c 23)],
.op 32 [(.v 33), (.c 24)],
.op 32 [(.v 33), (.c 25)],
.op 32 [(.v 33), (.c 26)],
.op 32 [(.v 33), (.c 27)],
.op 31 [(.v 31), (.v 32)],
.op 30 [(.v 31), (.v 32)],
.op 2 (List.replicate 27 (.c 0) ++ [.c 1]),
.op 2 (vsF 2)]
def dec15b : List (Nat × Bool) := [(34, true), (63, false), (64, true), (65, false), (66, true), (68, true), (69, true), (71, false), (74, true), (75, true), (76, true), (77, true)]
def st15b : St := startSt [.one (.sv 0 0 57 30), .agg (numsFrom .u8 2 28)] [(0, ptRow 0 1)] 31 1
def br15b : BriefR := ⟨.ret, 78, ex15b, [], [.one (.lit (.bool true))], []⟩
theorem run15b : briefR (tabZ xt2) Try.f15 [] (runF (tabZ xt2) (fixN 35 1 dec15b []) 3000 Try.f15 st15b) = some br15b := by kernel_rfl
theorem law15b {s : Nums}  {c0 : Nat} {K0 : Nat} {x0 y0 : Nat} (lx0 : x0 < pq) (ly0 : y0 < pq) (hon0 : onN x0 y0 = 1) {S : Nat} (hS : (K0 + 1) % 2 ^ 224 = S) (lS : S < 2 ^ 224) (hlt : K0 + 1 < 2 ^ 224) {X2 Y2 : Nat} (lX2 : X2 < pq) (lY2 : Y2 < pq) (on2 : onN X2 Y2 = 1) (f1 : farOf (mulN x0 y0 S) = 1) (f2 : farOf (mulN x0 y0 K0) = 0) (gx2 : xOf (mulN x0 y0 K0) = X2) (gy2 : yOf (mulN x0 y0 K0) = Y2) (f5 : farOf (addN X2 Y2 x0 y0) = 1) (q0 : s 0 = x0) (q1 : s 1 = y0) (q30 : s 30 = c0) (qK0 : ofBytes ((List.range 28).map fun i => s (2 + i)) = K0)  (h : Holds s 78 ex15b) : s 34 = 1 ∧ s 63 = 0 ∧ s 64 = 1 ∧ s 65 = 0 ∧ s 66 = 1 ∧ s 68 = 1 ∧ s 69 = 1 ∧ s 71 = 0 ∧ s 74 = 1 ∧ s 75 = 1 ∧ s 76 = 1 ∧ s 77 = 1 := by
  obtain ⟨h77, h76, h75, h74, h73, h72, h71, h70, h69, h68, h67, h66, h65, h64, h63, h62, h61, h60, h59, h58, h57, h56, h55, h54, h53, h52, h51, h50, h49, h48, h47, h46, h45, h44, h43, h42, h41, h40, h39, h38, h37, h36, h35, h34, h33, h32, h31, _⟩ := h
  have q31 : s 31 = K0 := (show s 31 = ofBytes ((List.range 28).map fun i => s (2 + i)) from h31).trans qK0
  have q32 : s 32 = 1 := (show s 32 = ofBytes (List.replicate 27 0 ++ [1]) from h32).trans (by decide +kernel)
  have q33 : s 33 = S := (show s 33 = (s 31 + s 32) % 2 ^ 224 from h33).trans (by rw [q31, q32]; exact hS)
  have q34 : s 34 = 1 := (show s 34 = if s 31 + s 32 < 2 ^ 224 then 1 else 0 from h34).trans (if_pos (by rw [q31, q32]; exact hlt))
  have q63 : s 63 = 0 := (show s 63 = if s 34 = 0 then 1 else 0 from h63).trans (if_neg (by rw [q34]; decide))
  have q64 : s 64 = 1 := ((show s 64 = onN (s 0) (s 1) from h64).trans (by rw [q0, q1])).trans hon0
  have q65 : s 65 = 0 := (show s 65 = if s 64 = 0 then 1 else 0 from h65).trans (if_neg (by rw [q64]; decide))
  have q66 : s 66 = 1 := ((show s 66 = onN (s 0) (s 1) from h66).trans (by rw [q0, q1])).trans hon0
  have B35 : ∀ i, i < 28 → s (35 + i) = by8 (27 - i) (s 33) := fun i hi => by
    rcases cases28 hi with rfl | rfl | rfl | rfl | rfl | rfl | rfl | rfl | rfl | rfl | rfl | rfl | rfl | rfl | rfl | rfl | rfl | rfl | rfl | rfl | rfl | rfl | rfl | rfl | rfl | rfl | rfl | rfl
    · exact h35
    · exact h36
    · exact h37
    · exact h38
    · exact h39
    · exact h40
    · exact h41
    · exact h42
    · exact h43
    · exact h44
    · exact h45
    · exact h46
    · exact h47
    · exact h48
    · exact h49
    · exact h50
    · exact h51
    · exact h52
    · exact h53
    · exact h54
    · exact h55
    · exact h56
    · exact h57
    · exact h58
    · exact h59
    · exact h60
    · exact h61
    · exact h62
  have q67 : s 67 = S := (show s 67 = ofBytes ((List.range 28).map fun i => s (35 + i)) from h67).trans ((bytes_back28 B35 (by rw [q33]; exact lS)).trans q33)
  have q68 : s 68 = 1 := ((show s 68 = farOf (mulN (s 0) (s 1) (s 67)) from h68).trans (by rw [q0, q1, q67])).trans f1
  have q69 : s 69 = 1 := ((show s 69 = onN (s 0) (s 1) from h69).trans (by rw [q0, q1])).trans hon0
  have q70 : s 70 = K0 := (show s 70 = ofBytes ((List.range 28).map fun i => s (2 + i)) from h70).trans qK0
  have q71 : s 71 = 0 := ((show s 71 = farOf (mulN (s 0) (s 1) (s 70)) from h71).trans (by rw [q0, q1, q70])).trans f2
  have q72 : s 72 = X2 := ((show s 72 = xOf (mulN (s 0) (s 1) (s 70)) from h72).trans (by rw [q0, q1, q70])).trans gx2
  have q73 : s 73 = Y2 := ((show s 73 = yOf (mulN (s 0) (s 1) (s 70)) from h73).trans (by rw [q0, q1, q70])).trans gy2
  have q74 : s 74 = 1 := ((show s 74 = onN (s 72) (s 73) from h74).trans (by rw [q72, q73])).trans on2
  have q75 : s 75 = 1 := ((show s 75 = onN (s 0) (s 1) from h75).trans (by rw [q0, q1])).trans hon0
  have q76 : s 76 = 1 := ((show s 76 = farOf (addN (s 72) (s 73) (s 0) (s 1)) from h76).trans (by rw [q72, q73, q0, q1])).trans f5
  have q77 : s 77 = 1 := (show s 77 = opVal 19 ([0] ++ [0]) from h77).trans (opVal_19 [0] [0] rfl)
  exact ⟨q34, q63, q64, q65, q66, q68, q69, q71, q74, q75, q76, q77⟩
def ex15k : List Ex := [
.feq (.v 76) (.c 0),
.op 20 [(.v 69), (.v 70)],
.op 19 ((Wd.c 4 :: (bs28 69 ++ bs28 70)) ++ (Wd.c 4 :: (bs28 0 ++ bs28 1))),
.op 20 [(.v 0), (.v 1)],
.op 25 [(.v 0), (.v 1), (.v 72)],
.op 2 (vsF 2),
.op 20 [(.v 0), (.v 1)],
.op 27 [(.v 0), (.v 1), (.v 67)],
.op 26 [(.v 0), (.v 1), (.v 67)],
.op 25 [(.v 0), (.v 1), (.v 67)],
.op 2 (vsF 35),
.op 20 [(.v 0), (.v 1)],
.feq (.v 64) (.c 0),
.op 20 [(.v 0), (.v 1)],
.feq (.v 34) (.c 0),
.op 32 [(.v 33), (.c 0)],
.op 32 [(.v 33), (.c 1)],
.op 32 [(.v 33), (.c 2)],
.op 32 [(.v 33), (.c 3)],
.op 32 [(.v 33), (.c 4)],
.op 32 [(.v 33), (.c 5)],
.op 32 [(.v 33), (.c 6)],
.op 32 [(.v 33), (.c 7)],
.op 32 [(.v 33), (.c 8)],
.op 32 [(.v 33), (.c 9)],
.op 32 [(.v 33), (.c 10)],
.op 32 [(.v 33), (.c 11)],
.op 32 [(.v 33), (.c 12)],
.op 32 [(.v 33), (.c 13)],
.op 32 [(.v 33), (.c 14)],
.op 32 [(.v 33), (.c 15)],
.op 32 [(.v 33), (.c 16)],
.op 32 [(.v 33), (.c 17)],
.op 32 [(.v 33), (.c 18)],
.op 32 [(.v 33), (.c 19)],
.op 32 [(.v 33), (.c 20)],
.op 32 [(.v 33), (.c 21)],
.op 32 [(.v 33), (.c 22)],
.op 32 [(.v 33), (.c 23)],
.op 32 [(.v 33), (.c 24)],
.op 32 [(.v 33), (.c 25)],
.op 32 [(.v 33), (.c 26)],
.op 32 [(.v 33), (.c 27)],
.op 31 [(.v 31), (.v 32)],
.op 30 [(.v 31), (.v 32)],
.op 2 (List.replicate 27 (.c 0) ++ [.c 1]),
.op 2 (vsF 2)]
def dec15k : List (Nat × Bool) := [(34, true), (63, false), (64, true), (65, false), (66, true), (68, false), (71, true), (73, true), (74, true), (75, true), (76, true), (77, false)]
def st15k : St := startSt [.one (.sv 0 0 57 30), .agg (numsFrom .u8 2 28)] [(0, ptRow 0 1)] 31 1
def br15k : BriefR := ⟨.ret, 78, ex15k, [], [.one (.lit (.bool true))], []⟩
theorem run15k : briefR (tabZ xt2) Try.f15 [] (runF (tabZ xt2) (fixN 35 1 dec15k []) 3000 Try.f15 st15k) = some br15k := by kernel_rfl
theorem law15k {s : Nums}  {c0 : Nat} {K0 : Nat} {x0 y0 : Nat} (lx0 : x0 < pq) (ly0 : y0 < pq) (hon0 : onN x0 y0 = 1) {S : Nat} (hS : (K0 + 1) % 2 ^ 224 = S) (lS : S < 2 ^ 224) (hlt : K0 + 1 < 2 ^ 224) (f1 : farOf (mulN x0 y0 S) = 0) (gx1 : xOf (mulN x0 y0 S) = x0) (gy1 : yOf (mulN x0 y0 S) = y0) (f2 : farOf (mulN x0 y0 K0) = 1) (q0 : s 0 = x0) (q1 : s 1 = y0) (q30 : s 30 = c0) (qK0 : ofBytes ((List.range 28).map fun i => s (2 + i)) = K0)  (h : Holds s 78 ex15k) : s 34 = 1 ∧ s 63 = 0 ∧ s 64 = 1 ∧ s 65 = 0 ∧ s 66 = 1 ∧ s 68 = 0 ∧ s 71 = 1 ∧ s 73 = 1 ∧ s 74 = 1 ∧ s 75 = 1 ∧ s 76 = 1 ∧ s 77 = 0 := by
  obtain ⟨h77, h76, h75, h74, h73, h72, h71, h70, h69, h68, h67, h66, h65, h64, h63, h62, h61, h60, h59, h58, h57, h56, h55, h54, h53, h52, h51, h50, h49, h48, h47, h46, h45, h44, h43, h42, h41, h40, h39, h38, h37, h36, h35, h34, h33, h32, h31, _⟩ := h
  have q31 : s 31 = K0 := (show s 31 = ofBytes ((List.range 28).map fun i => s (2 + i)) from h31).trans qK0
  have q32 : s 32 = 1 := (show s 32 = ofBytes (List.replicate 27 0 ++ [1]) from h32).trans (by decide +kernel)
  have q33 : s 33 = S := (show s 33 = (s 31 + s 32) % 2 ^ 224 from h33).trans (by rw [q31, q32]; exact hS)
  have q34 : s 34 = 1 := (show s 34 = if s 31 + s 32 < 2 ^ 224 then 1 else 0 from h34).trans (if_pos (by rw [q31, q32]; exact hlt))
  have q63 : s 63 = 0 := (show s 63 = if s 34 = 0 then 1 else 0 from h63).trans (if_neg (by rw [q34]; decide))
  have q64 : s 64 = 1 := ((show s 64 = onN (s 0) (s 1) from h64).trans (by rw [q0, q1])).trans hon0
  have q65 : s 65 = 0 := (show s 65 = if s 64 = 0 then 1 else 0 from h65).trans (if_neg (by rw [q64]; decide))
  have q66 : s 66 = 1 := ((show s 66 = onN (s 0) (s 1) from h66).trans (by rw [q0, q1])).trans hon0
  have B35 : ∀ i, i < 28 → s (35 + i) = by8 (27 - i) (s 33) := fun i hi => by
    rcases cases28 hi with rfl | rfl | rfl | rfl | rfl | rfl | rfl | rfl | rfl | rfl | rfl | rfl | rfl | rfl | rfl | rfl | rfl | rfl | rfl | rfl | rfl | rfl | rfl | rfl | rfl | rfl | rfl | rfl
    · exact h35
    · exact h36
    · exact h37
    · exact h38
    · exact h39
    · exact h40
    · exact h41
    · exact h42
    · exact h43
    · exact h44
    · exact h45
    · exact h46
    · exact h47
    · exact h48
    · exact h49
    · exact h50
    · exact h51
    · exact h52
    · exact h53
    · exact h54
    · exact h55
    · exact h56
    · exact h57
    · exact h58
    · exact h59
    · exact h60
    · exact h61
    · exact h62
  have q67 : s 67 = S := (show s 67 = ofBytes ((List.range 28).map fun i => s (35 + i)) from h67).trans ((bytes_back28 B35 (by rw [q33]; exact lS)).trans q33)
  have q68 : s 68 = 0 := ((show s 68 = farOf (mulN (s 0) (s 1) (s 67)) from h68).trans (by rw [q0, q1, q67])).trans f1
  have q69 : s 69 = x0 := ((show s 69 = xOf (mulN (s 0) (s 1) (s 67)) from h69).trans (by rw [q0, q1, q67])).trans gx1
  have q70 : s 70 = y0 := ((show s 70 = yOf (mulN (s 0) (s 1) (s 67)) from h70).trans (by rw [q0, q1, q67])).trans gy1
  have q71 : s 71 = 1 := ((show s 71 = onN (s 0) (s 1) from h71).trans (by rw [q0, q1])).trans hon0
  have q72 : s 72 = K0 := (show s 72 = ofBytes ((List.range 28).map fun i => s (2 + i)) from h72).trans qK0
  have q73 : s 73 = 1 := ((show s 73 = farOf (mulN (s 0) (s 1) (s 72)) from h73).trans (by rw [q0, q1, q72])).trans f2
  have q74 : s 74 = 1 := ((show s 74 = onN (s 0) (s 1) from h74).trans (by rw [q0, q1])).trans hon0
  have q75 : s 75 = 1 := same_pts h75 (by rw [q69, q0]) (by rw [q70, q1])
  have q76 : s 76 = 1 := ((show s 76 = onN (s 69) (s 70) from h76).trans (by rw [q69, q70])).trans hon0
  have q77 : s 77 = 0 := (show s 77 = if s 76 = 0 then 1 else 0 from h77).trans (if_neg (by rw [q76]; decide))
  exact ⟨q34, q63, q64, q65, q66, q68, q71, q73, q74, q75, q76, q77⟩
def ex15m : List Ex := [
.feq (.v 82) (.c 0),
.op 20 [(.v 69), (.v 70)],
.op 19 ((Wd.c 4 :: (bs28 69 ++ bs28 70)) ++ (Wd.c 4 :: (bs28 79 ++ bs28 80))),
.op 23 [(.v 74), (.v 75), (.v 0), (.v 1)],
.op 22 [(.v 74), (.v 75), (.v 0), (.v 1)],
.op 21 [(.v 74), (.v 75), (.v 0), (.v 1)],
.op 20 [(.v 0), (.v 1)],
.op 20 [(.v 74), (.v 75)],
.op 27 [(.v 0), (.v 1), (.v 72)],
.op 26 [(.v 0), (.v 1), (.v 72)],
.op 25 [(.v 0), (.v 1), (.v 72)],
.op 2 (vsF 2),
.op 20 [(.v 0), (.v 1)],
.op 27 [(.v 0), (.v 1), (.v 67)],
.op 26 [(.v 0), (.v 1), (.v 67)],
.op 25 [(.v 0), (.v 1), (.v 67)],
.op 2 (vsF 35),
.op 20 [(.v 0), (.v 1)],
.feq (.v 64) (.c 0),
.op 20 [(.v 0), (.v 1)],
.feq (.v 34) (.c 0),
.op 32 [(.v 33), (.c 0)],
.op 32 [(.v 33), (.c 1)],
.op 32 [(.v 33), (.c 2)],
.op 32 [(.v 33), (.c 3)],
.op 32 [(.v 33), (.c 4)],
.op 32 [(.v 33), (.c 5)],
.op 32 [(.v 33), (.c 6)],
.op 32 [(.v 33), (.c 7)],
.op 32 [(.v 33), (.c 8)],
.op 32 [(.v 33), (.c 9)],
.op 32 [(.v 33), (.c 10)],
.op 32 [(.v 33), (.c 11)],
.op 32 [(.v 33), (.c 12)],
.op 32 [(.v 33), (.c 13)],
.op 32 [(.v 33), (.c 14)],
.op 32 [(.v 33), (.c 15)],
.op 32 [(.v 33), (.c 16)],
.op 32 [(.v 33), (.c 17)],
.op 32 [(.v 33), (.c 18)],
.op 32 [(.v 33), (.c 19)],
.op 32 [(.v 33), (.c 20)],
.op 32 [(.v 33), (.c 21)],
.op 32 [(.v 33), (.c 22)],
.op 32 [(.v 33), (.c 23)],
.op 32 [(.v 33), (.c 24)],
.op 32 [(.v 33), (.c 25)],
.op 32 [(.v 33), (.c 26)],
.op 32 [(.v 33), (.c 27)],
.op 31 [(.v 31), (.v 32)],
.op 30 [(.v 31), (.v 32)],
.op 2 (List.replicate 27 (.c 0) ++ [.c 1]),
.op 2 (vsF 2)]
def dec15m : List (Nat × Bool) := [(34, true), (63, false), (64, true), (65, false), (66, true), (68, false), (71, true), (73, false), (76, true), (77, true), (78, false), (81, true), (82, true), (83, false)]
def st15m : St := startSt [.one (.sv 0 0 57 30), .agg (numsFrom .u8 2 28)] [(0, ptRow 0 1)] 31 1
def br15m : BriefR := ⟨.ret, 84, ex15m, [], [.one (.lit (.bool true))], []⟩
theorem run15m : briefR (tabZ xt2) Try.f15 [] (runF (tabZ xt2) (fixN 35 1 dec15m []) 3000 Try.f15 st15m) = some br15m := by kernel_rfl
theorem law15m {s : Nums}  {c0 : Nat} {K0 : Nat} {x0 y0 : Nat} (lx0 : x0 < pq) (ly0 : y0 < pq) (hon0 : onN x0 y0 = 1) {S : Nat} (hS : (K0 + 1) % 2 ^ 224 = S) (lS : S < 2 ^ 224) (hlt : K0 + 1 < 2 ^ 224) {X4 Y4 : Nat} (lX4 : X4 < pq) (lY4 : Y4 < pq) (on4 : onN X4 Y4 = 1) {X2 Y2 : Nat} (lX2 : X2 < pq) (lY2 : Y2 < pq) (on2 : onN X2 Y2 = 1) (f1 : farOf (mulN x0 y0 S) = 0) (gx1 : xOf (mulN x0 y0 S) = X4) (gy1 : yOf (mulN x0 y0 S) = Y4) (f2 : farOf (mulN x0 y0 K0) = 0) (gx2 : xOf (mulN x0 y0 K0) = X2) (gy2 : yOf (mulN x0 y0 K0) = Y2) (f5 : farOf (addN X2 Y2 x0 y0) = 0) (gx5 : xOf (addN X2 Y2 x0 y0) = X4) (gy5 : yOf (addN X2 Y2 x0 y0) = Y4) (q0 : s 0 = x0) (q1 : s 1 = y0) (q30 : s 30 = c0) (qK0 : ofBytes ((List.range 28).map fun i => s (2 + i)) = K0)  (h : Holds s 84 ex15m) : s 34 = 1 ∧ s 63 = 0 ∧ s 64 = 1 ∧ s 65 = 0 ∧ s 66 = 1 ∧ s 68 = 0 ∧ s 71 = 1 ∧ s 73 = 0 ∧ s 76 = 1 ∧ s 77 = 1 ∧ s 78 = 0 ∧ s 81 = 1 ∧ s 82 = 1 ∧ s 83 = 0 := by
  obtain ⟨h83, h82, h81, h80, h79, h78, h77, h76, h75, h74, h73, h72, h71, h70, h69, h68, h67, h66, h65, h64, h63, h62, h61, h60, h59, h58, h57, h56, h55, h54, h53, h52, h51, h50, h49, h48, h47, h46, h45, h44, h43, h42, h41, h40, h39, h38, h37, h36, h35, h34, h33, h32, h31, _⟩ := h
  have q31 : s 31 = K0 := (show s 31 = ofBytes ((List.range 28).map fun i => s (2 + i)) from h31).trans qK0
  have q32 : s 32 = 1 := (show s 32 = ofBytes (List.replicate 27 0 ++ [1]) from h32).trans (by decide +kernel)
  have q33 : s 33 = S := (show s 33 = (s 31 + s 32) % 2 ^ 224 from h33).trans (by rw [q31, q32]; exact hS)
  have q34 : s 34 = 1 := (show s 34 = if s 31 + s 32 < 2 ^ 224 then 1 else 0 from h34).trans (if_pos (by rw [q31, q32]; exact hlt))
  have q63 : s 63 = 0 := (show s 63 = if s 34 = 0 then 1 else 0 from h63).trans (if_neg (by rw [q34]; decide))
  have q64 : s 64 = 1 := ((show s 64 = onN (s 0) (s 1) from h64).trans (by rw [q0, q1])).trans hon0
  have q65 : s 65 = 0 := (show s 65 = if s 64 = 0 then 1 else 0 from h65).trans (if_neg (by rw [q64]; decide))
  have q66 : s 66 = 1 := ((show s 66 = onN (s 0) (s 1) from h66).trans (by rw [q0, q1])).trans hon0
  have B35 : ∀ i, i < 28 → s (35 + i) = by8 (27 - i) (s 33) := fun i hi => by
    rcases cases28 hi with rfl | rfl | rfl | rfl | rfl | rfl | rfl | rfl | rfl | rfl | rfl | rfl | rfl | rfl | rfl | rfl | rfl | rfl | rfl | rfl | rfl | rfl | rfl | rfl | rfl | rfl | rfl | rfl
    · exact h35
    · exact h36
    · exact h37
    · exact h38
    · exact h39
    · exact h40
    · exact h41
    · exact h42
    · exact h43
    · exact h44
    · exact h45
    · exact h46
    · exact h47
    · exact h48
    · exact h49
    · exact h50
    · exact h51
    · exact h52
    · exact h53
    · exact h54
    · exact h55
    · exact h56
    · exact h57
    · exact h58
    · exact h59
    · exact h60
    · exact h61
    · exact h62
  have q67 : s 67 = S := (show s 67 = ofBytes ((List.range 28).map fun i => s (35 + i)) from h67).trans ((bytes_back28 B35 (by rw [q33]; exact lS)).trans q33)
  have q68 : s 68 = 0 := ((show s 68 = farOf (mulN (s 0) (s 1) (s 67)) from h68).trans (by rw [q0, q1, q67])).trans f1
  have q69 : s 69 = X4 := ((show s 69 = xOf (mulN (s 0) (s 1) (s 67)) from h69).trans (by rw [q0, q1, q67])).trans gx1
  have q70 : s 70 = Y4 := ((show s 70 = yOf (mulN (s 0) (s 1) (s 67)) from h70).trans (by rw [q0, q1, q67])).trans gy1
  have q71 : s 71 = 1 := ((show s 71 = onN (s 0) (s 1) from h71).trans (by rw [q0, q1])).trans hon0
  have q72 : s 72 = K0 := (show s 72 = ofBytes ((List.range 28).map fun i => s (2 + i)) from h72).trans qK0
  have q73 : s 73 = 0 := ((show s 73 = farOf (mulN (s 0) (s 1) (s 72)) from h73).trans (by rw [q0, q1, q72])).trans f2
  have q74 : s 74 = X2 := ((show s 74 = xOf (mulN (s 0) (s 1) (s 72)) from h74).trans (by rw [q0, q1, q72])).trans gx2
  have q75 : s 75 = Y2 := ((show s 75 = yOf (mulN (s 0) (s 1) (s 72)) from h75).trans (by rw [q0, q1, q72])).trans gy2
  have q76 : s 76 = 1 := ((show s 76 = onN (s 74) (s 75) from h76).trans (by rw [q74, q75])).trans on2
  have q77 : s 77 = 1 := ((show s 77 = onN (s 0) (s 1) from h77).trans (by rw [q0, q1])).trans hon0
  have q78 : s 78 = 0 := ((show s 78 = farOf (addN (s 74) (s 75) (s 0) (s 1)) from h78).trans (by rw [q74, q75, q0, q1])).trans f5
  have q79 : s 79 = X4 := ((show s 79 = xOf (addN (s 74) (s 75) (s 0) (s 1)) from h79).trans (by rw [q74, q75, q0, q1])).trans gx5
  have q80 : s 80 = Y4 := ((show s 80 = yOf (addN (s 74) (s 75) (s 0) (s 1)) from h80).trans (by rw [q74, q75, q0, q1])).trans gy5
  have q81 : s 81 = 1 := same_pts h81 (by rw [q69, q79]) (by rw [q70, q80])
  have q82 : s 82 = 1 := ((show s 82 = onN (s 69) (s 70) from h82).trans (by rw [q69, q70])).trans on4
  have q83 : s 83 = 0 := (show s 83 = if s 82 = 0 then 1 else 0 from h83).trans (if_neg (by rw [q82]; decide))
  exact ⟨q34, q63, q64, q65, q66, q68, q71, q73, q76, q77, q78, q81, q82, q83⟩
theorem law15_good {w : World} {v : Value} (h1 : PtOf w v) {k0 : List Nat} (hk0 : Is28 k0) (hlt : ofBytes k0 + 1 < 2 ^ 224) : Law 15 w [v, arrV k0] := by
  obtain ⟨S, hS, lS⟩ : ∃ S, (ofBytes k0 + 1) % 2 ^ 224 = S ∧ S < 2 ^ 224 := ⟨_, rfl, Nat.mod_lt _ (by decide)⟩
  rcases h1 with ⟨b0, o0, c0, rfl, hc0, hp0⟩ | ⟨b0, o0, c0, x0, y0, rfl, hc0, hp0, lx0, ly0, hon0⟩
  · have lt0 : b0 < w.heap.size := World.block_lt_of_cell? w _ hp0
    let S0 : Nums := fun i =>  if i < 28 then k0.getD (i - 0) 0 else  c0
    have ak0 : ∀ s : Nums, (∀ i, i < 29 → s i = S0 i) → ∀ m, m < 28 → s (0 + m) = k0.getD m 0 := fun s hs m hm => by
      rw [hs (0 + m) (by omega)]
      show ( if 0 + m < 28 then k0.getD (0 + m - 0) 0 else  c0) = _
      rw [if_pos (by omega), show 0 + m - 0 = m by omega]
    refine calls_briefR (F := fixN 35 1 dec15f []) (tabZ_ok xt2_ok) run15f Try.func15 Try.ntmps15 rfl (by decide +kernel) (by decide +kernel) (by decide +kernel) (show 2 ≤ 35 by decide) (show 2 < 4095 by decide) S0 (fun r =>  (b0, o0))
      (vals := [_, arrV k0]) (fun s hs => ⟨⟨by rw [hs 28 (by decide)]; rfl, by rw [hs 28 (by decide)]; exact hc0, show 0 < 1 by decide⟩, agg_rep hk0 (ak0 s hs), trivial⟩) (fun s hs => ⟨show 0 < 1 by decide, ⟨⟨_, hp0, rfl⟩, trivial⟩, trivial⟩) (fun r l hl hr => by cases hr) (fun r _ => lt0) (fun r q _ _ h => by cases h) ?_ ?_
    · intro s hs hH i bb hb
      obtain ⟨q32, q61, q64⟩ := law15f (c0 := c0) (K0 := ofBytes k0)  hS lS hlt (hs 28 (by decide)) (kb_of hk0 (ak0 s hs)) hH
      have := findT_mem (show findT i dec15f = some bb from hb)
      simp only [dec15f, List.mem_cons, List.not_mem_nil, or_false, Prod.mk.injEq] at this
      rcases this with ⟨rfl, rfl⟩ | ⟨rfl, rfl⟩ | ⟨rfl, rfl⟩ <;> assumption
    · intro s hs hH st' β' a' w' v hv hm hag hr hbe
      have hv' : v = .bool true := hv
      exact ⟨by rw [hv'], hbe⟩
  · have lt0 : b0 < w.heap.size := World.block_lt_of_cell? w _ (hp0 0 4 rfl)
    have both : mulN x0 y0 S = padd (mulN x0 y0 (ofBytes k0)) (ptN x0 y0) := by
      rw [← hS, Nat.mod_eq_of_lt hlt]
      have := nsmul_add fine (onN_on hon0) (ofBytes k0) 1
      rw [nsmul_one] at this
      exact this
    rcases mul_cases hon0 (ofBytes k0) with ⟨f2, e2⟩ | ⟨X2, Y2, f2, gx2, gy2, lX2, lY2, on2, e2⟩
    · obtain ⟨f1, gx1, gy1⟩ := is_pt (p := mulN x0 y0 S) (by rw [e2, far_padd] at both; exact both) lx0 ly0
      let S0 : Nums := fun i => if i = 0 then x0 else if i = 1 then y0 else if i < 30 then k0.getD (i - 2) 0 else  c0
      have ak0 : ∀ s : Nums, (∀ i, i < 31 → s i = S0 i) → ∀ m, m < 28 → s (2 + m) = k0.getD m 0 := fun s hs m hm => by
        rw [hs (2 + m) (by omega)]
        show (if 2 + m = 0 then x0 else if 2 + m = 1 then y0 else if 2 + m < 30 then k0.getD (2 + m - 2) 0 else  c0) = _
        rw [if_neg (by omega), if_neg (by omega), if_pos (by omega), show 2 + m - 2 = m by omega]
      refine calls_briefR (F := fixN 35 1 dec15k []) (tabZ_ok xt2_ok) run15k Try.func15 Try.ntmps15 rfl (by decide +kernel) (by decide +kernel) (by decide +kernel) (show 2 ≤ 35 by decide) (show 2 < 4095 by decide) S0 (fun r =>  (b0, o0))
        (vals := [_, arrV k0]) (fun s hs => ⟨⟨by rw [hs 30 (by decide)]; rfl, by rw [hs 30 (by decide)]; exact hc0, show 0 < 1 by decide⟩, agg_rep hk0 (ak0 s hs), trivial⟩) (fun s hs => ⟨show 0 < 1 by decide, ptRow_row rfl hp0 (hs 0 (by decide)) (hs 1 (by decide)) lx0 ly0, trivial⟩) (fun r l hl hr => by cases hr) (fun r _ => lt0) (fun r q _ _ h => by cases h) ?_ ?_
      · intro s hs hH i bb hb
        obtain ⟨q34, q63, q64, q65, q66, q68, q71, q73, q74, q75, q76, q77⟩ := law15k (c0 := c0) (K0 := ofBytes k0) (x0 := x0) (y0 := y0) lx0 ly0 hon0 hS lS hlt f1 gx1 gy1 f2 (hs 0 (by decide)) (hs 1 (by decide)) (hs 30 (by decide)) (kb_of hk0 (ak0 s hs)) hH
        have := findT_mem (show findT i dec15k = some bb from hb)
        simp only [dec15k, List.mem_cons, List.not_mem_nil, or_false, Prod.mk.injEq] at this
        rcases this with ⟨rfl, rfl⟩ | ⟨rfl, rfl⟩ | ⟨rfl, rfl⟩ | ⟨rfl, rfl⟩ | ⟨rfl, rfl⟩ | ⟨rfl, rfl⟩ | ⟨rfl, rfl⟩ | ⟨rfl, rfl⟩ | ⟨rfl, rfl⟩ | ⟨rfl, rfl⟩ | ⟨rfl, rfl⟩ | ⟨rfl, rfl⟩ <;> assumption
      · intro s hs hH st' β' a' w' v hv hm hag hr hbe
        have hv' : v = .bool true := hv
        exact ⟨by rw [hv'], hbe⟩
    · rcases mul_cases hon0 S with ⟨f1, e1⟩ | ⟨X4, Y4, f1, gx1, gy1, lX4, lY4, on4, e1⟩
      · have f5 : farOf (addN X2 Y2 x0 y0) = 1 := is_far (by rw [e1, e2] at both; exact both.symm)
        let S0 : Nums := fun i => if i = 0 then x0 else if i = 1 then y0 else if i < 30 then k0.getD (i - 2) 0 else  c0
        have ak0 : ∀ s : Nums, (∀ i, i < 31 → s i = S0 i) → ∀ m, m < 28 → s (2 + m) = k0.getD m 0 := fun s hs m hm => by
          rw [hs (2 + m) (by omega)]
          show (if 2 + m = 0 then x0 else if 2 + m = 1 then y0 else if 2 + m < 30 then k0.getD (2 + m - 2) 0 else  c0) = _
          rw [if_neg (by omega), if_neg (by omega), if_pos (by omega), show 2 + m - 2 = m by omega]
        refine calls_briefR (F := fixN 35 1 dec15b []) (tabZ_ok xt2_ok) run15b Try.func15 Try.ntmps15 rfl (by decide +kernel) (by decide +kernel) (by decide +kernel) (show 2 ≤ 35 by decide) (show 2 < 4095 by decide) S0 (fun r =>  (b0, o0))
          (vals := [_, arrV k0]) (fun s hs => ⟨⟨by rw [hs 30 (by decide)]; rfl, by rw [hs 30 (by decide)]; exact hc0, show 0 < 1 by decide⟩, agg_rep hk0 (ak0 s hs), trivial⟩) (fun s hs => ⟨show 0 < 1 by decide, ptRow_row rfl hp0 (hs 0 (by decide)) (hs 1 (by decide)) lx0 ly0, trivial⟩) (fun r l hl hr => by cases hr) (fun r _ => lt0) (fun r q _ _ h => by cases h) ?_ ?_
        · intro s hs hH i bb hb
          obtain ⟨q34, q63, q64, q65, q66, q68, q69, q71, q74, q75, q76, q77⟩ := law15b (c0 := c0) (K0 := ofBytes k0) (x0 := x0) (y0 := y0) lx0 ly0 hon0 hS lS hlt lX2 lY2 on2 f1 f2 gx2 gy2 f5 (hs 0 (by decide)) (hs 1 (by decide)) (hs 30 (by decide)) (kb_of hk0 (ak0 s hs)) hH
          have := findT_mem (show findT i dec15b = some bb from hb)
          simp only [dec15b, List.mem_cons, List.not_mem_nil, or_false, Prod.mk.injEq] at this
          rcases this with ⟨rfl, rfl⟩ | ⟨rfl, rfl⟩ | ⟨rfl, rfl⟩ | ⟨rfl, rfl⟩ | ⟨rfl, rfl⟩ | ⟨rfl, rfl⟩ | ⟨rfl, rfl⟩ | ⟨rfl, rfl⟩ | ⟨rfl, rfl⟩ | ⟨rfl, rfl⟩ | ⟨rfl, rfl⟩ | ⟨rfl, rfl⟩ <;> assumption
        · intro s hs hH st' β' a' w' v hv hm hag hr hbe
          have hv' : v = .bool true := hv
          exact ⟨by rw [hv'], hbe⟩
      · obtain ⟨f5, gx5, gy5⟩ := is_pt (p := addN X2 Y2 x0 y0) (by rw [e1, e2] at both; exact both.symm) lX4 lY4
        let S0 : Nums := fun i => if i = 0 then x0 else if i = 1 then y0 else if i < 30 then k0.getD (i - 2) 0 else  c0
        have ak0 : ∀ s : Nums, (∀ i, i < 31 → s i = S0 i) → ∀ m, m < 28 → s (2 + m) = k0.getD m 0 := fun s hs m hm => by
          rw [hs (2 + m) (by omega)]
          show (if 2 + m = 0 then x0 else if 2 + m = 1 then y0 else if 2 + m < 30 then k0.getD (2 + m - 2) 0 else  c0) = _
          rw [if_neg (by omega), if_neg (by omega), if_pos (by omega), show 2 + m - 2 = m by omega]
        refine calls_briefR (F := fixN 35 1 dec15m []) (tabZ_ok xt2_ok) run15m Try.func15 Try.ntmps15 rfl (by decide +kernel) (by decide +kernel) (by decide +kernel) (show 2 ≤ 35 by decide) (show 2 < 4095 by decide) S0 (fun r =>  (b0, o0))
          (vals := [_, arrV k0]) (fun s hs => ⟨⟨by rw [hs 30 (by decide)]; rfl, by rw [hs 30 (by decide)]; exact hc0, show 0 < 1 by decide⟩, agg_rep hk0 (ak0 s hs), trivial⟩) (fun s hs => ⟨show 0 < 1 by decide, ptRow_row rfl hp0 (hs 0 (by decide)) (hs 1 (by decide)) lx0 ly0, trivial⟩) (fun r l hl hr => by cases hr) (fun r _ => lt0) (fun r q _ _ h => by cases h) ?_ ?_
        · intro s hs hH i bb hb
          obtain ⟨q34, q63, q64, q65, q66, q68, q71, q73, q76, q77, q78, q81, q82, q83⟩ := law15m (c0 := c0) (K0 := ofBytes k0) (x0 := x0) (y0 := y0) lx0 ly0 hon0 hS lS hlt lX4 lY4 on4 lX2 lY2 on2 f1 gx1 gy1 f2 gx2 gy2 f5 gx5 gy5 (hs 0 (by decide)) (hs 1 (by decide)) (hs 30 (by decide)) (kb_of hk0 (ak0 s hs)) hH
          have := findT_mem (show findT i dec15m = some bb from hb)
          simp only [dec15m, List.mem_cons, List.not_mem_nil, or_false, Prod.mk.injEq] at this
          rcases this with ⟨rfl, rfl⟩ | ⟨rfl, rfl⟩ | ⟨rfl, rfl⟩ | ⟨rfl, rfl⟩ | ⟨rfl, rfl⟩ | ⟨rfl, rfl⟩ | ⟨rfl, rfl⟩ | ⟨rfl, rfl⟩ | ⟨rfl, rfl⟩ | ⟨rfl, rfl⟩ | ⟨rfl, rfl⟩ | ⟨rfl, rfl⟩ | ⟨rfl, rfl⟩ | ⟨rfl, rfl⟩ <;> assumption
        · intro s hs hH st' β' a' w' v hv hm hag hr hbe
          have hv' : v = .bool true := hv
          exact ⟨by rw [hv'], hbe⟩
theorem one_val (s : Nums) : ofBytes ((List.replicate 27 (Wd.c 0) ++ [Wd.c 1]).map (Wd.val s)) = 1 := by
  rw [List.map_append, List.map_replicate]
  show ofBytes (List.replicate 27 0 ++ [1]) = 1
  decide +kernel
theorem law15_all {w : World} {v : Value} {b o n u d f : Nat} (h : Sl w v b o n u d f) {k0 : List Nat} (hk0 : Is28 k0) : Law 15 w (v :: [arrV k0]) := by
  have ak0 : ∀ s : Nums, (∀ i, 4 ≤ i → i < 32 → s i = (fun i => if i < 32 then k0.getD (i - 4) 0 else 0) i) → ∀ m, m < 28 → s (4 + m) = k0.getD m 0 := fun s hs m hm => by
    rw [hs (4 + m) (by omega) (by omega)]
    show (if 4 + m < 32 then k0.getD (4 + m - 4) 0 else 0) = _
    rw [if_pos (by omega), show 4 + m - 4 = m by omega]
  by_cases hb : 2147483647 < n ∨ ¬ ofBytes k0 + 1 < 2 ^ 224 ∨ f = 0
  · exact law_more (tabZ_ok xt2_ok) (n0 := 32) (vals := [arrV k0]) (K := ofBytes k0) (M := 1) (by decide) (fun i => if i < 32 then k0.getD (i - 4) 0 else 0) run15b1 run15b2 run15b3 Try.func15 Try.ntmps15 (by decide +kernel) (by decide +kernel) (by decide +kernel) (by decide) (by decide) (fun s β hs => ⟨agg_rep hk0 (ak0 s hs), trivial⟩) (fun s hs => kb_of hk0 (ak0 s hs)) (fun s hs => one_val s) h hb
  · have hf : f = 1 := by have := h.flag.le; omega
    subst hf
    exact law15_good h.point hk0 (Decidable.not_not.1 fun hh => hb (.inr (.inl hh)))
end P224
