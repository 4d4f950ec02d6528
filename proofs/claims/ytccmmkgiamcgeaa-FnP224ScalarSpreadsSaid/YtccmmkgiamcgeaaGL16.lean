/- Law ScalarSpreads. PRINTED BY A PROGRAM OF MY OWN (gen/mkL16.py). -/
import Derived.Test.YtccmmkgiamcgeaaGY3
set_option linter.all false
namespace P224
open Go Go.RowKit Go.Proofs
set_option maxRecDepth 100000
set_option linter.unusedVariables false
theorem run16b1 : briefR (tabZ xt1) Try.f16 [] (runF (tabZ xt1) (fixN 35 2 [(36, true)] npSy2) 3000 Try.f16 stSyA) = some ⟨.ret, 37, [lenE 0], [], [.one (.lit (.bool true))], []⟩ := by kernel_rfl
theorem run16b2 : briefR (tabZ xt1) Try.f16 [] (runF (tabZ xt1) (fixN 35 2 [(36, false), (37, true)] npSy2) 3000 Try.f16 stSyA) = some ⟨.ret, 38, [lenE 4, lenE 0], [], [.one (.lit (.bool true))], []⟩ := by kernel_rfl
theorem run16b3 : briefR (tabZ xt1) Try.f16 [] (runF (tabZ xt1) (fixN 35 2 [(36, false), (37, false), (38, true)] npSy2) 3000 Try.f16 stSyA) = some ⟨.ret, 39, [.feq (.v 3) (.c 0), lenE 4, lenE 0], [], [.one (.lit (.bool true))], []⟩ := by kernel_rfl
theorem run16b4 : briefR (tabZ xt1) Try.f16 [] (runF (tabZ xt1) (fixN 35 2 [(36, false), (37, false), (38, false), (39, true)] npSy2) 3000 Try.f16 stSyA) = some ⟨.ret, 40, [.feq (.v 7) (.c 0), .feq (.v 3) (.c 0), lenE 4, lenE 0], [], [.one (.lit (.bool true))], []⟩ := by kernel_rfl
def ex16f : List Ex := [
.op 19 [.c 0, .c 0],
.op 2 (vsF 0),
.op 2 (vsF 0),
.op 2 (vsF 0)]
def dec16f : List (Nat × Bool) := [(33, true)]
def st16f : St := startSt [.one (.sv 0 0 1 28), .one (.sv 1 0 1 29), .agg (numsFrom .u8 0 28)] [(0, [.lit (.int .u8 0)]), (1, [.lit (.int .u8 0)])] 30 2
def br16f : BriefR := ⟨.ret, 34, ex16f, [], [.one (.lit (.bool true))], []⟩
theorem run16f : briefR (tabZ xt1) Try.f16 [] (runF (tabZ xt1) (fixN 35 2 dec16f []) 3000 Try.f16 st16f) = some br16f := by kernel_rfl
theorem law16f {s : Nums}  {c0 : Nat} {c1 : Nat} {K0 : Nat} (q28 : s 28 = c0) (q29 : s 29 = c1) (qK0 : ofBytes ((List.range 28).map fun i => s (0 + i)) = K0)  (h : Holds s 34 ex16f) : s 33 = 1 := by
  obtain ⟨h33, h32, h31, h30, _⟩ := h
  have q30 : s 30 = K0 := (show s 30 = ofBytes ((List.range 28).map fun i => s (0 + i)) from h30).trans qK0
  have q31 : s 31 = K0 := (show s 31 = ofBytes ((List.range 28).map fun i => s (0 + i)) from h31).trans qK0
  have q32 : s 32 = K0 := (show s 32 = ofBytes ((List.range 28).map fun i => s (0 + i)) from h32).trans qK0
  have q33 : s 33 = 1 := (show s 33 = opVal 19 ([0] ++ [0]) from h33).trans (opVal_19 [0] [0] rfl)
  exact q33
def ex16g : List Ex := [
.op 19 [.c 0, .c 0],
.op 25 [(.v 0), (.v 1), (.v 40)],
.op 2 (vsF 2),
.op 20 [(.v 0), (.v 1)],
.op 2 (vsF 2),
.op 25 [(.v 0), (.v 1), (.v 36)],
.op 2 (vsF 2),
.op 20 [(.v 0), (.v 1)],
.op 20 [(.v 0), (.v 1)],
.feq (.v 32) (.c 0),
.op 20 [(.v 0), (.v 1)]]
def dec16g : List (Nat × Bool) := [(32, true), (33, false), (34, true), (35, true), (37, true), (39, true), (41, true), (42, true)]
def st16g : St := startSt [.one (.sv 0 0 1 30), .one (.sv 1 0 57 31), .agg (numsFrom .u8 2 28)] [(0, [.lit (.int .u8 0)]), (1, ptRow 0 1)] 32 2
def br16g : BriefR := ⟨.ret, 43, ex16g, [], [.one (.lit (.bool true))], []⟩
theorem run16g : briefR (tabZ xt1) Try.f16 [] (runF (tabZ xt1) (fixN 35 2 dec16g []) 3000 Try.f16 st16g) = some br16g := by kernel_rfl
theorem law16g {s : Nums}  {c0 : Nat} {c1 : Nat} {K0 : Nat} {x1 y1 : Nat} (lx1 : x1 < pq) (ly1 : y1 < pq) (hon1 : onN x1 y1 = 1) (f3 : farOf (mulN x1 y1 K0) = 1) (q0 : s 0 = x1) (q1 : s 1 = y1) (q30 : s 30 = c0) (q31 : s 31 = c1) (qK0 : ofBytes ((List.range 28).map fun i => s (2 + i)) = K0)  (h : Holds s 43 ex16g) : s 32 = 1 ∧ s 33 = 0 ∧ s 34 = 1 ∧ s 35 = 1 ∧ s 37 = 1 ∧ s 39 = 1 ∧ s 41 = 1 ∧ s 42 = 1 := by
  obtain ⟨h42, h41, h40, h39, h38, h37, h36, h35, h34, h33, h32, _⟩ := h
  have q32 : s 32 = 1 := ((show s 32 = onN (s 0) (s 1) from h32).trans (by rw [q0, q1])).trans hon1
  have q33 : s 33 = 0 := (show s 33 = if s 32 = 0 then 1 else 0 from h33).trans (if_neg (by rw [q32]; decide))
  have q34 : s 34 = 1 := ((show s 34 = onN (s 0) (s 1) from h34).trans (by rw [q0, q1])).trans hon1
  have q35 : s 35 = 1 := ((show s 35 = onN (s 0) (s 1) from h35).trans (by rw [q0, q1])).trans hon1
  have q36 : s 36 = K0 := (show s 36 = ofBytes ((List.range 28).map fun i => s (2 + i)) from h36).trans qK0
  have q37 : s 37 = 1 := ((show s 37 = farOf (mulN (s 0) (s 1) (s 36)) from h37).trans (by rw [q0, q1, q36])).trans f3
  have q38 : s 38 = K0 := (show s 38 = ofBytes ((List.range 28).map fun i => s (2 + i)) from h38).trans qK0
  have q39 : s 39 = 1 := ((show s 39 = onN (s 0) (s 1) from h39).trans (by rw [q0, q1])).trans hon1
  have q40 : s 40 = K0 := (show s 40 = ofBytes ((List.range 28).map fun i => s (2 + i)) from h40).trans qK0
  have q41 : s 41 = 1 := ((show s 41 = farOf (mulN (s 0) (s 1) (s 40)) from h41).trans (by rw [q0, q1, q40])).trans f3
  have q42 : s 42 = 1 := (show s 42 = opVal 19 ([0] ++ [0]) from h42).trans (opVal_19 [0] [0] rfl)
  exact ⟨q32, q33, q34, q35, q37, q39, q41, q42⟩
def ex16h : List Ex := [
.feq (.v 48) (.c 0),
.op 20 [(.v 38), (.v 39)],
.op 19 ((Wd.c 4 :: (bs28 38 ++ bs28 39)) ++ (Wd.c 4 :: (bs28 44 ++ bs28 45))),
.op 20 [(.v 44), (.v 45)],
.op 27 [(.v 0), (.v 1), (.v 42)],
.op 26 [(.v 0), (.v 1), (.v 42)],
.op 25 [(.v 0), (.v 1), (.v 42)],
.op 2 (vsF 2),
.op 20 [(.v 0), (.v 1)],
.op 2 (vsF 2),
.op 27 [(.v 0), (.v 1), (.v 36)],
.op 26 [(.v 0), (.v 1), (.v 36)],
.op 25 [(.v 0), (.v 1), (.v 36)],
.op 2 (vsF 2),
.op 20 [(.v 0), (.v 1)],
.op 20 [(.v 0), (.v 1)],
.feq (.v 32) (.c 0),
.op 20 [(.v 0), (.v 1)]]
def dec16h : List (Nat × Bool) := [(32, true), (33, false), (34, true), (35, true), (37, false), (41, true), (43, false), (46, true), (47, true), (48, true), (49, false)]
def st16h : St := startSt [.one (.sv 0 0 1 30), .one (.sv 1 0 57 31), .agg (numsFrom .u8 2 28)] [(0, [.lit (.int .u8 0)]), (1, ptRow 0 1)] 32 2
def br16h : BriefR := ⟨.ret, 50, ex16h, [], [.one (.lit (.bool true))], []⟩
theorem run16h : briefR (tabZ xt1) Try.f16 [] (runF (tabZ xt1) (fixN 35 2 dec16h []) 3000 Try.f16 st16h) = some br16h := by kernel_rfl
theorem law16h {s : Nums}  {c0 : Nat} {c1 : Nat} {K0 : Nat} {x1 y1 : Nat} (lx1 : x1 < pq) (ly1 : y1 < pq) (hon1 : onN x1 y1 = 1) {X3 Y3 : Nat} (lX3 : X3 < pq) (lY3 : Y3 < pq) (on3 : onN X3 Y3 = 1) (f3 : farOf (mulN x1 y1 K0) = 0) (gx3 : xOf (mulN x1 y1 K0) = X3) (gy3 : yOf (mulN x1 y1 K0) = Y3) (q0 : s 0 = x1) (q1 : s 1 = y1) (q30 : s 30 = c0) (q31 : s 31 = c1) (qK0 : ofBytes ((List.range 28).map fun i => s (2 + i)) = K0)  (h : Holds s 50 ex16h) : s 32 = 1 ∧ s 33 = 0 ∧ s 34 = 1 ∧ s 35 = 1 ∧ s 37 = 0 ∧ s 41 = 1 ∧ s 43 = 0 ∧ s 46 = 1 ∧ s 47 = 1 ∧ s 48 = 1 ∧ s 49 = 0 := by
  obtain ⟨h49, h48, h47, h46, h45, h44, h43, h42, h41, h40, h39, h38, h37, h36, h35, h34, h33, h32, _⟩ := h
  have q32 : s 32 = 1 := ((show s 32 = onN (s 0) (s 1) from h32).trans (by rw [q0, q1])).trans hon1
  have q33 : s 33 = 0 := (show s 33 = if s 32 = 0 then 1 else 0 from h33).trans (if_neg (by rw [q32]; decide))
  have q34 : s 34 = 1 := ((show s 34 = onN (s 0) (s 1) from h34).trans (by rw [q0, q1])).trans hon1
  have q35 : s 35 = 1 := ((show s 35 = onN (s 0) (s 1) from h35).trans (by rw [q0, q1])).trans hon1
  have q36 : s 36 = K0 := (show s 36 = ofBytes ((List.range 28).map fun i => s (2 + i)) from h36).trans qK0
  have q37 : s 37 = 0 := ((show s 37 = farOf (mulN (s 0) (s 1) (s 36)) from h37).trans (by rw [q0, q1, q36])).trans f3
  have q38 : s 38 = X3 := ((show s 38 = xOf (mulN (s 0) (s 1) (s 36)) from h38).trans (by rw [q0, q1, q36])).trans gx3
  have q39 : s 39 = Y3 := ((show s 39 = yOf (mulN (s 0) (s 1) (s 36)) from h39).trans (by rw [q0, q1, q36])).trans gy3
  have q40 : s 40 = K0 := (show s 40 = ofBytes ((List.range 28).map fun i => s (2 + i)) from h40).trans qK0
  have q41 : s 41 = 1 := ((show s 41 = onN (s 0) (s 1) from h41).trans (by rw [q0, q1])).trans hon1
  have q42 : s 42 = K0 := (show s 42 = ofBytes ((List.range 28).map fun i => s (2 + i)) from h42).trans qK0
  have q43 : s 43 = 0 := ((show s 43 = farOf (mulN (s 0) (s 1) (s 42)) from h43).trans (by rw [q0, q1, q42])).trans f3
  have q44 : s 44 = X3 := ((show s 44 = xOf (mulN (s 0) (s 1) (s 42)) from h44).trans (by rw [q0, q1, q42])).trans gx3
  have q45 : s 45 = Y3 := ((show s 45 = yOf (mulN (s 0) (s 1) (s 42)) from h45).trans (by rw [q0, q1, q42])).trans gy3
  have q46 : s 46 = 1 := ((show s 46 = onN (s 44) (s 45) from h46).trans (by rw [q44, q45])).trans on3
  have q47 : s 47 = 1 := same_pts h47 (by rw [q38, q44]) (by rw [q39, q45])
  have q48 : s 48 = 1 := ((show s 48 = onN (s 38) (s 39) from h48).trans (by rw [q38, q39])).trans on3
  have q49 : s 49 = 0 := (show s 49 = if s 48 = 0 then 1 else 0 from h49).trans (if_neg (by rw [q48]; decide))
  exact ⟨q32, q33, q34, q35, q37, q41, q43, q46, q47, q48, q49⟩
def ex16i : List Ex := [
.op 19 [.c 0, .c 0],
.op 2 (vsF 2),
.op 25 [(.v 0), (.v 1), (.v 39)],
.op 2 (vsF 2),
.op 20 [(.v 0), (.v 1)],
.op 25 [(.v 0), (.v 1), (.v 36)],
.op 2 (vsF 2),
.op 20 [(.v 0), (.v 1)],
.op 20 [(.v 0), (.v 1)],
.feq (.v 32) (.c 0),
.op 20 [(.v 0), (.v 1)]]
def dec16i : List (Nat × Bool) := [(32, true), (33, false), (34, true), (35, true), (37, true), (38, true), (40, true), (42, true)]
def st16i : St := startSt [.one (.sv 0 0 57 30), .one (.sv 1 0 1 31), .agg (numsFrom .u8 2 28)] [(0, ptRow 0 1), (1, [.lit (.int .u8 0)])] 32 2
def br16i : BriefR := ⟨.ret, 43, ex16i, [], [.one (.lit (.bool true))], []⟩
theorem run16i : briefR (tabZ xt1) Try.f16 [] (runF (tabZ xt1) (fixN 35 2 dec16i []) 3000 Try.f16 st16i) = some br16i := by kernel_rfl
theorem law16i {s : Nums}  {c0 : Nat} {c1 : Nat} {K0 : Nat} {x0 y0 : Nat} (lx0 : x0 < pq) (ly0 : y0 < pq) (hon0 : onN x0 y0 = 1) (f2 : farOf (mulN x0 y0 K0) = 1) (q0 : s 0 = x0) (q1 : s 1 = y0) (q30 : s 30 = c0) (q31 : s 31 = c1) (qK0 : ofBytes ((List.range 28).map fun i => s (2 + i)) = K0)  (h : Holds s 43 ex16i) : s 32 = 1 ∧ s 33 = 0 ∧ s 34 = 1 ∧ s 35 = 1 ∧ s 37 = 1 ∧ s 38 = 1 ∧ s 40 = 1 ∧ s 42 = 1 := by
  obtain ⟨h42, h41, h40, h39, h38, h37, h36, h35, h34, h33, h32, _⟩ := h
  have q32 : s 32 = 1 := ((show s 32 = onN (s 0) (s 1) from h32).trans (by rw [q0, q1])).trans hon0
  have q33 : s 33 = 0 := (show s 33 = if s 32 = 0 then 1 else 0 from h33).trans (if_neg (by rw [q32]; decide))
  have q34 : s 34 = 1 := ((show s 34 = onN (s 0) (s 1) from h34).trans (by rw [q0, q1])).trans hon0
  have q35 : s 35 = 1 := ((show s 35 = onN (s 0) (s 1) from h35).trans (by rw [q0, q1])).trans hon0
  have q36 : s 36 = K0 := (show s 36 = ofBytes ((List.range 28).map fun i => s (2 + i)) from h36).trans qK0
  have q37 : s 37 = 1 := ((show s 37 = farOf (mulN (s 0) (s 1) (s 36)) from h37).trans (by rw [q0, q1, q36])).trans f2
  have q38 : s 38 = 1 := ((show s 38 = onN (s 0) (s 1) from h38).trans (by rw [q0, q1])).trans hon0
  have q39 : s 39 = K0 := (show s 39 = ofBytes ((List.range 28).map fun i => s (2 + i)) from h39).trans qK0
  have q40 : s 40 = 1 := ((show s 40 = farOf (mulN (s 0) (s 1) (s 39)) from h40).trans (by rw [q0, q1, q39])).trans f2
  have q41 : s 41 = K0 := (show s 41 = ofBytes ((List.range 28).map fun i => s (2 + i)) from h41).trans qK0
  have q42 : s 42 = 1 := (show s 42 = opVal 19 ([0] ++ [0]) from h42).trans (opVal_19 [0] [0] rfl)
  exact ⟨q32, q33, q34, q35, q37, q38, q40, q42⟩
def ex16j : List Ex := [
.feq (.v 48) (.c 0),
.op 20 [(.v 38), (.v 39)],
.op 19 ((Wd.c 4 :: (bs28 38 ++ bs28 39)) ++ (Wd.c 4 :: (bs28 43 ++ bs28 44))),
.op 20 [(.v 43), (.v 44)],
.op 2 (vsF 2),
.op 27 [(.v 0), (.v 1), (.v 41)],
.op 26 [(.v 0), (.v 1), (.v 41)],
.op 25 [(.v 0), (.v 1), (.v 41)],
.op 2 (vsF 2),
.op 20 [(.v 0), (.v 1)],
.op 27 [(.v 0), (.v 1), (.v 36)],
.op 26 [(.v 0), (.v 1), (.v 36)],
.op 25 [(.v 0), (.v 1), (.v 36)],
.op 2 (vsF 2),
.op 20 [(.v 0), (.v 1)],
.op 20 [(.v 0), (.v 1)],
.feq (.v 32) (.c 0),
.op 20 [(.v 0), (.v 1)]]
def dec16j : List (Nat × Bool) := [(32, true), (33, false), (34, true), (35, true), (37, false), (40, true), (42, false), (46, true), (47, true), (48, true), (49, false)]
def st16j : St := startSt [.one (.sv 0 0 57 30), .one (.sv 1 0 1 31), .agg (numsFrom .u8 2 28)] [(0, ptRow 0 1), (1, [.lit (.int .u8 0)])] 32 2
def br16j : BriefR := ⟨.ret, 50, ex16j, [], [.one (.lit (.bool true))], []⟩
theorem run16j : briefR (tabZ xt1) Try.f16 [] (runF (tabZ xt1) (fixN 35 2 dec16j []) 3000 Try.f16 st16j) = some br16j := by kernel_rfl
theorem law16j {s : Nums}  {c0 : Nat} {c1 : Nat} {K0 : Nat} {x0 y0 : Nat} (lx0 : x0 < pq) (ly0 : y0 < pq) (hon0 : onN x0 y0 = 1) {X2 Y2 : Nat} (lX2 : X2 < pq) (lY2 : Y2 < pq) (on2 : onN X2 Y2 = 1) (f2 : farOf (mulN x0 y0 K0) = 0) (gx2 : xOf (mulN x0 y0 K0) = X2) (gy2 : yOf (mulN x0 y0 K0) = Y2) (q0 : s 0 = x0) (q1 : s 1 = y0) (q30 : s 30 = c0) (q31 : s 31 = c1) (qK0 : ofBytes ((List.range 28).map fun i => s (2 + i)) = K0)  (h : Holds s 50 ex16j) : s 32 = 1 ∧ s 33 = 0 ∧ s 34 = 1 ∧ s 35 = 1 ∧ s 37 = 0 ∧ s 40 = 1 ∧ s 42 = 0 ∧ s 46 = 1 ∧ s 47 = 1 ∧ s 48 = 1 ∧ s 49 = 0 := by
  obtain ⟨h49, h48, h47, h46, h45, h44, h43, h42, h41, h40, h39, h38, h37, h36, h35, h34, h33, h32, _⟩ := h
  have q32 : s 32 = 1 := ((show s 32 = onN (s 0) (s 1) from h32).trans (by rw [q0, q1])).trans hon0
  have q33 : s 33 = 0 := (show s 33 = if s 32 = 0 then 1 else 0 from h33).trans (if_neg (by rw [q32]; decide))
  have q34 : s 34 = 1 := ((show s 34 = onN (s 0) (s 1) from h34).trans (by rw [q0, q1])).trans hon0
  have q35 : s 35 = 1 := ((show s 35 = onN (s 0) (s 1) from h35).trans (by rw [q0, q1])).trans hon0
  have q36 : s 36 = K0 := (show s 36 = ofBytes ((List.range 28).map fun i => s (2 + i)) from h36).trans qK0
  have q37 : s 37 = 0 := ((show s 37 = farOf (mulN (s 0) (s 1) (s 36)) from h37).trans (by rw [q0, q1, q36])).trans f2
  have q38 : s 38 = X2 := ((show s 38 = xOf (mulN (s 0) (s 1) (s 36)) from h38).trans (by rw [q0, q1, q36])).trans gx2
  have q39 : s 39 = Y2 := ((show s 39 = yOf (mulN (s 0) (s 1) (s 36)) from h39).trans (by rw [q0, q1, q36])).trans gy2
  have q40 : s 40 = 1 := ((show s 40 = onN (s 0) (s 1) from h40).trans (by rw [q0, q1])).trans hon0
  have q41 : s 41 = K0 := (show s 41 = ofBytes ((List.range 28).map fun i => s (2 + i)) from h41).trans qK0
  have q42 : s 42 = 0 := ((show s 42 = farOf (mulN (s 0) (s 1) (s 41)) from h42).trans (by rw [q0, q1, q41])).trans f2
  have q43 : s 43 = X2 := ((show s 43 = xOf (mulN (s 0) (s 1) (s 41)) from h43).trans (by rw [q0, q1, q41])).trans gx2
  have q44 : s 44 = Y2 := ((show s 44 = yOf (mulN (s 0) (s 1) (s 41)) from h44).trans (by rw [q0, q1, q41])).trans gy2
  have q45 : s 45 = K0 := (show s 45 = ofBytes ((List.range 28).map fun i => s (2 + i)) from h45).trans qK0
  have q46 : s 46 = 1 := ((show s 46 = onN (s 43) (s 44) from h46).trans (by rw [q43, q44])).trans on2
  have q47 : s 47 = 1 := same_pts h47 (by rw [q38, q43]) (by rw [q39, q44])
  have q48 : s 48 = 1 := ((show s 48 = onN (s 38) (s 39) from h48).trans (by rw [q38, q39])).trans on2
  have q49 : s 49 = 0 := (show s 49 = if s 48 = 0 then 1 else 0 from h49).trans (if_neg (by rw [q48]; decide))
  exact ⟨q32, q33, q34, q35, q37, q40, q42, q46, q47, q48, q49⟩
def ex16a : List Ex := [
.op 19 [.c 0, .c 0],
.op 25 [(.v 2), (.v 3), (.v 46)],
.op 2 (vsF 4),
.op 20 [(.v 2), (.v 3)],
.op 25 [(.v 0), (.v 1), (.v 43)],
.op 2 (vsF 4),
.op 20 [(.v 0), (.v 1)],
.op 2 (vsF 4),
.op 21 [(.v 0), (.v 1), (.v 2), (.v 3)],
.op 20 [(.v 2), (.v 3)],
.op 20 [(.v 0), (.v 1)],
.feq (.v 36) (.c 0),
.op 20 [(.v 2), (.v 3)],
.feq (.v 34) (.c 0),
.op 20 [(.v 0), (.v 1)]]
def dec16a : List (Nat × Bool) := [(34, true), (35, false), (36, true), (37, false), (38, true), (39, true), (40, true), (42, true), (44, true), (45, true), (47, true), (48, true)]
def st16a : St := startSt [.one (.sv 0 0 57 32), .one (.sv 1 0 57 33), .agg (numsFrom .u8 4 28)] [(0, ptRow 0 1), (1, ptRow 2 3)] 34 2
def br16a : BriefR := ⟨.ret, 49, ex16a, [], [.one (.lit (.bool true))], []⟩
theorem run16a : briefR (tabZ xt1) Try.f16 [] (runF (tabZ xt1) (fixN 35 2 dec16a []) 3000 Try.f16 st16a) = some br16a := by kernel_rfl
theorem law16a {s : Nums}  {c0 : Nat} {c1 : Nat} {K0 : Nat} {x0 y0 : Nat} (lx0 : x0 < pq) (ly0 : y0 < pq) (hon0 : onN x0 y0 = 1) {x1 y1 : Nat} (lx1 : x1 < pq) (ly1 : y1 < pq) (hon1 : onN x1 y1 = 1) (f1 : farOf (addN x0 y0 x1 y1) = 1) (f2 : farOf (mulN x0 y0 K0) = 1) (f3 : farOf (mulN x1 y1 K0) = 1) (q0 : s 0 = x0) (q1 : s 1 = y0) (q2 : s 2 = x1) (q3 : s 3 = y1) (q32 : s 32 = c0) (q33 : s 33 = c1) (qK0 : ofBytes ((List.range 28).map fun i => s (4 + i)) = K0)  (h : Holds s 49 ex16a) : s 34 = 1 ∧ s 35 = 0 ∧ s 36 = 1 ∧ s 37 = 0 ∧ s 38 = 1 ∧ s 39 = 1 ∧ s 40 = 1 ∧ s 42 = 1 ∧ s 44 = 1 ∧ s 45 = 1 ∧ s 47 = 1 ∧ s 48 = 1 := by
  obtain ⟨h48, h47, h46, h45, h44, h43, h42, h41, h40, h39, h38, h37, h36, h35, h34, _⟩ := h
  have q34 : s 34 = 1 := ((show s 34 = onN (s 0) (s 1) from h34).trans (by rw [q0, q1])).trans hon0
  have q35 : s 35 = 0 := (show s 35 = if s 34 = 0 then 1 else 0 from h35).trans (if_neg (by rw [q34]; decide))
  have q36 : s 36 = 1 := ((show s 36 = onN (s 2) (s 3) from h36).trans (by rw [q2, q3])).trans hon1
  have q37 : s 37 = 0 := (show s 37 = if s 36 = 0 then 1 else 0 from h37).trans (if_neg (by rw [q36]; decide))
  have q38 : s 38 = 1 := ((show s 38 = onN (s 0) (s 1) from h38).trans (by rw [q0, q1])).trans hon0
  have q39 : s 39 = 1 := ((show s 39 = onN (s 2) (s 3) from h39).trans (by rw [q2, q3])).trans hon1
  have q40 : s 40 = 1 := ((show s 40 = farOf (addN (s 0) (s 1) (s 2) (s 3)) from h40).trans (by rw [q0, q1, q2, q3])).trans f1
  have q41 : s 41 = K0 := (show s 41 = ofBytes ((List.range 28).map fun i => s (4 + i)) from h41).trans qK0
  have q42 : s 42 = 1 := ((show s 42 = onN (s 0) (s 1) from h42).trans (by rw [q0, q1])).trans hon0
  have q43 : s 43 = K0 := (show s 43 = ofBytes ((List.range 28).map fun i => s (4 + i)) from h43).trans qK0
  have q44 : s 44 = 1 := ((show s 44 = farOf (mulN (s 0) (s 1) (s 43)) from h44).trans (by rw [q0, q1, q43])).trans f2
  have q45 : s 45 = 1 := ((show s 45 = onN (s 2) (s 3) from h45).trans (by rw [q2, q3])).trans hon1
  have q46 : s 46 = K0 := (show s 46 = ofBytes ((List.range 28).map fun i => s (4 + i)) from h46).trans qK0
  have q47 : s 47 = 1 := ((show s 47 = farOf (mulN (s 2) (s 3) (s 46)) from h47).trans (by rw [q2, q3, q46])).trans f3
  have q48 : s 48 = 1 := (show s 48 = opVal 19 ([0] ++ [0]) from h48).trans (opVal_19 [0] [0] rfl)
  exact ⟨q34, q35, q36, q37, q38, q39, q40, q42, q44, q45, q47, q48⟩
def ex16b : List Ex := [
.op 19 [.c 0, .c 0],
.op 21 [(.v 45), (.v 46), (.v 50), (.v 51)],
.op 20 [(.v 50), (.v 51)],
.op 20 [(.v 45), (.v 46)],
.op 27 [(.v 2), (.v 3), (.v 48)],
.op 26 [(.v 2), (.v 3), (.v 48)],
.op 25 [(.v 2), (.v 3), (.v 48)],
.op 2 (vsF 4),
.op 20 [(.v 2), (.v 3)],
.op 27 [(.v 0), (.v 1), (.v 43)],
.op 26 [(.v 0), (.v 1), (.v 43)],
.op 25 [(.v 0), (.v 1), (.v 43)],
.op 2 (vsF 4),
.op 20 [(.v 0), (.v 1)],
.op 2 (vsF 4),
.op 21 [(.v 0), (.v 1), (.v 2), (.v 3)],
.op 20 [(.v 2), (.v 3)],
.op 20 [(.v 0), (.v 1)],
.feq (.v 36) (.c 0),
.op 20 [(.v 2), (.v 3)],
.feq (.v 34) (.c 0),
.op 20 [(.v 0), (.v 1)]]
def dec16b : List (Nat × Bool) := [(34, true), (35, false), (36, true), (37, false), (38, true), (39, true), (40, true), (42, true), (44, false), (47, true), (49, false), (52, true), (53, true), (54, true), (55, true)]
def st16b : St := startSt [.one (.sv 0 0 57 32), .one (.sv 1 0 57 33), .agg (numsFrom .u8 4 28)] [(0, ptRow 0 1), (1, ptRow 2 3)] 34 2
def br16b : BriefR := ⟨.ret, 56, ex16b, [], [.one (.lit (.bool true))], []⟩
theorem run16b : briefR (tabZ xt1) Try.f16 [] (runF (tabZ xt1) (fixN 35 2 dec16b []) 3000 Try.f16 st16b) = some br16b := by kernel_rfl
theorem law16b {s : Nums}  {c0 : Nat} {c1 : Nat} {K0 : Nat} {x0 y0 : Nat} (lx0 : x0 < pq) (ly0 : y0 < pq) (hon0 : onN x0 y0 = 1) {x1 y1 : Nat} (lx1 : x1 < pq) (ly1 : y1 < pq) (hon1 : onN x1 y1 = 1) {X2 Y2 : Nat} (lX2 : X2 < pq) (lY2 : Y2 < pq) (on2 : onN X2 Y2 = 1) {X3 Y3 : Nat} (lX3 : X3 < pq) (lY3 : Y3 < pq) (on3 : onN X3 Y3 = 1) (f1 : farOf (addN x0 y0 x1 y1) = 1) (f2 : farOf (mulN x0 y0 K0) = 0) (gx2 : xOf (mulN x0 y0 K0) = X2) (gy2 : yOf (mulN x0 y0 K0) = Y2) (f3 : farOf (mulN x1 y1 K0) = 0) (gx3 : xOf (mulN x1 y1 K0) = X3) (gy3 : yOf (mulN x1 y1 K0) = Y3) (f5 : farOf (addN X2 Y2 X3 Y3) = 1) (q0 : s 0 = x0) (q1 : s 1 = y0) (q2 : s 2 = x1) (q3 : s 3 = y1) (q32 : s 32 = c0) (q33 : s 33 = c1) (qK0 : ofBytes ((List.range 28).map fun i => s (4 + i)) = K0)  (h : Holds s 56 ex16b) : s 34 = 1 ∧ s 35 = 0 ∧ s 36 = 1 ∧ s 37 = 0 ∧ s 38 = 1 ∧ s 39 = 1 ∧ s 40 = 1 ∧ s 42 = 1 ∧ s 44 = 0 ∧ s 47 = 1 ∧ s 49 = 0 ∧ s 52 = 1 ∧ s 53 = 1 ∧ s 54 = 1 ∧ s 55 = 1 := by
  obtain ⟨h55, h54, h53, h52, h51, h50, h49, h48, h47, h46, h45, h44, h43, h42, h41, h40, h39, h38, h37, h36, h35, h34, _⟩ := h
  have q34 : s 34 = 1 := ((show s 34 = onN (s 0) (s 1) from h34).trans (by rw [q0, q1])).trans hon0
  have q35 : s 35 = 0 := (show s 35 = if s 34 = 0 then 1 else 0 from h35).trans (if_neg (by rw [q34]; decide))
  have q36 : s 36 = 1 := ((show s 36 = onN (s 2) (s 3) from h36).trans (by rw [q2, q3])).trans hon1
  have q37 : s 37 = 0 := (show s 37 = if s 36 = 0 then 1 else 0 from h37).trans (if_neg (by rw [q36]; decide))
  have q38 : s 38 = 1 := ((show s 38 = onN (s 0) (s 1) from h38).trans (by rw [q0, q1])).trans hon0
  have q39 : s 39 = 1 := ((show s 39 = onN (s 2) (s 3) from h39).trans (by rw [q2, q3])).trans hon1
  have q40 : s 40 = 1 := ((show s 40 = farOf (addN (s 0) (s 1) (s 2) (s 3)) from h40).trans (by rw [q0, q1, q2, q3])).trans f1
  have q41 : s 41 = K0 := (show s 41 = ofBytes ((List.range 28).map fun i => s (4 + i)) from h41).trans qK0
  have q42 : s 42 = 1 := ((show s 42 = onN (s 0) (s 1) from h42).trans (by rw [q0, q1])).trans hon0
  have q43 : s 43 = K0 := (show s 43 = ofBytes ((List.range 28).map fun i => s (4 + i)) from h43).trans qK0
  have q44 : s 44 = 0 := ((show s 44 = farOf (mulN (s 0) (s 1) (s 43)) from h44).trans (by rw [q0, q1, q43])).trans f2
  have q45 : s 45 = X2 := ((show s 45 = xOf (mulN (s 0) (s 1) (s 43)) from h45).trans (by rw [q0, q1, q43])).trans gx2
  have q46 : s 46 = Y2 := ((show s 46 = yOf (mulN (s 0) (s 1) (s 43)) from h46).trans (by rw [q0, q1, q43])).trans gy2
  have q47 : s 47 = 1 := ((show s 47 = onN (s 2) (s 3) from h47).trans (by rw [q2, q3])).trans hon1
  have q48 : s 48 = K0 := (show s 48 = ofBytes ((List.range 28).map fun i => s (4 + i)) from h48).trans qK0
  have q49 : s 49 = 0 := ((show s 49 = farOf (mulN (s 2) (s 3) (s 48)) from h49).trans (by rw [q2, q3, q48])).trans f3
  have q50 : s 50 = X3 := ((show s 50 = xOf (mulN (s 2) (s 3) (s 48)) from h50).trans (by rw [q2, q3, q48])).trans gx3
  have q51 : s 51 = Y3 := ((show s 51 = yOf (mulN (s 2) (s 3) (s 48)) from h51).trans (by rw [q2, q3, q48])).trans gy3
  have q52 : s 52 = 1 := ((show s 52 = onN (s 45) (s 46) from h52).trans (by rw [q45, q46])).trans on2
  have q53 : s 53 = 1 := ((show s 53 = onN (s 50) (s 51) from h53).trans (by rw [q50, q51])).trans on3
  have q54 : s 54 = 1 := ((show s 54 = farOf (addN (s 45) (s 46) (s 50) (s 51)) from h54).trans (by rw [q45, q46, q50, q51])).trans f5
  have q55 : s 55 = 1 := (show s 55 = opVal 19 ([0] ++ [0]) from h55).trans (opVal_19 [0] [0] rfl)
  exact ⟨q34, q35, q36, q37, q38, q39, q40, q42, q44, q47, q49, q52, q53, q54, q55⟩
def ex16c : List Ex := [
.op 19 [.c 0, .c 0],
.op 25 [(.v 2), (.v 3), (.v 50)],
.op 2 (vsF 4),
.op 20 [(.v 2), (.v 3)],
.op 25 [(.v 0), (.v 1), (.v 47)],
.op 2 (vsF 4),
.op 20 [(.v 0), (.v 1)],
.op 25 [(.v 41), (.v 42), (.v 44)],
.op 2 (vsF 4),
.op 20 [(.v 41), (.v 42)],
.op 23 [(.v 0), (.v 1), (.v 2), (.v 3)],
.op 22 [(.v 0), (.v 1), (.v 2), (.v 3)],
.op 21 [(.v 0), (.v 1), (.v 2), (.v 3)],
.op 20 [(.v 2), (.v 3)],
.op 20 [(.v 0), (.v 1)],
.feq (.v 36) (.c 0),
.op 20 [(.v 2), (.v 3)],
.feq (.v 34) (.c 0),
.op 20 [(.v 0), (.v 1)]]
def dec16c : List (Nat × Bool) := [(34, true), (35, false), (36, true), (37, false), (38, true), (39, true), (40, false), (43, true), (45, true), (46, true), (48, true), (49, true), (51, true), (52, true)]
def st16c : St := startSt [.one (.sv 0 0 57 32), .one (.sv 1 0 57 33), .agg (numsFrom .u8 4 28)] [(0, ptRow 0 1), (1, ptRow 2 3)] 34 2
def br16c : BriefR := ⟨.ret, 53, ex16c, [], [.one (.lit (.bool true))], []⟩
theorem run16c : briefR (tabZ xt1) Try.f16 [] (runF (tabZ xt1) (fixN 35 2 dec16c []) 3000 Try.f16 st16c) = some br16c := by kernel_rfl
theorem law16c {s : Nums}  {c0 : Nat} {c1 : Nat} {K0 : Nat} {x0 y0 : Nat} (lx0 : x0 < pq) (ly0 : y0 < pq) (hon0 : onN x0 y0 = 1) {x1 y1 : Nat} (lx1 : x1 < pq) (ly1 : y1 < pq) (hon1 : onN x1 y1 = 1) {X1 Y1 : Nat} (lX1 : X1 < pq) (lY1 : Y1 < pq) (on1 : onN X1 Y1 = 1) (f1 : farOf (addN x0 y0 x1 y1) = 0) (gx1 : xOf (addN x0 y0 x1 y1) = X1) (gy1 : yOf (addN x0 y0 x1 y1) = Y1) (f4 : farOf (mulN X1 Y1 K0) = 1) (f2 : farOf (mulN x0 y0 K0) = 1) (f3 : farOf (mulN x1 y1 K0) = 1) (q0 : s 0 = x0) (q1 : s 1 = y0) (q2 : s 2 = x1) (q3 : s 3 = y1) (q32 : s 32 = c0) (q33 : s 33 = c1) (qK0 : ofBytes ((List.range 28).map fun i => s (4 + i)) = K0)  (h : Holds s 53 ex16c) : s 34 = 1 ∧ s 35 = 0 ∧ s 36 = 1 ∧ s 37 = 0 ∧ s 38 = 1 ∧ s 39 = 1 ∧ s 40 = 0 ∧ s 43 = 1 ∧ s 45 = 1 ∧ s 46 = 1 ∧ s 48 = 1 ∧ s 49 = 1 ∧ s 51 = 1 ∧ s 52 = 1 := by
  obtain ⟨h52, h51, h50, h49, h48, h47, h46, h45, h44, h43, h42, h41, h40, h39, h38, h37, h36, h35, h34, _⟩ := h
  have q34 : s 34 = 1 := ((show s 34 = onN (s 0) (s 1) from h34).trans (by rw [q0, q1])).trans hon0
  have q35 : s 35 = 0 := (show s 35 = if s 34 = 0 then 1 else 0 from h35).trans (if_neg (by rw [q34]; decide))
  have q36 : s 36 = 1 := ((show s 36 = onN (s 2) (s 3) from h36).trans (by rw [q2, q3])).trans hon1
  have q37 : s 37 = 0 := (show s 37 = if s 36 = 0 then 1 else 0 from h37).trans (if_neg (by rw [q36]; decide))
  have q38 : s 38 = 1 := ((show s 38 = onN (s 0) (s 1) from h38).trans (by rw [q0, q1])).trans hon0
  have q39 : s 39 = 1 := ((show s 39 = onN (s 2) (s 3) from h39).trans (by rw [q2, q3])).trans hon1
  have q40 : s 40 = 0 := ((show s 40 = farOf (addN (s 0) (s 1) (s 2) (s 3)) from h40).trans (by rw [q0, q1, q2, q3])).trans f1
  have q41 : s 41 = X1 := ((show s 41 = xOf (addN (s 0) (s 1) (s 2) (s 3)) from h41).trans (by rw [q0, q1, q2, q3])).trans gx1
  have q42 : s 42 = Y1 := ((show s 42 = yOf (addN (s 0) (s 1) (s 2) (s 3)) from h42).trans (by rw [q0, q1, q2, q3])).trans gy1
  have q43 : s 43 = 1 := ((show s 43 = onN (s 41) (s 42) from h43).trans (by rw [q41, q42])).trans on1
  have q44 : s 44 = K0 := (show s 44 = ofBytes ((List.range 28).map fun i => s (4 + i)) from h44).trans qK0
  have q45 : s 45 = 1 := ((show s 45 = farOf (mulN (s 41) (s 42) (s 44)) from h45).trans (by rw [q41, q42, q44])).trans f4
  have q46 : s 46 = 1 := ((show s 46 = onN (s 0) (s 1) from h46).trans (by rw [q0, q1])).trans hon0
  have q47 : s 47 = K0 := (show s 47 = ofBytes ((List.range 28).map fun i => s (4 + i)) from h47).trans qK0
  have q48 : s 48 = 1 := ((show s 48 = farOf (mulN (s 0) (s 1) (s 47)) from h48).trans (by rw [q0, q1, q47])).trans f2
  have q49 : s 49 = 1 := ((show s 49 = onN (s 2) (s 3) from h49).trans (by rw [q2, q3])).trans hon1
  have q50 : s 50 = K0 := (show s 50 = ofBytes ((List.range 28).map fun i => s (4 + i)) from h50).trans qK0
  have q51 : s 51 = 1 := ((show s 51 = farOf (mulN (s 2) (s 3) (s 50)) from h51).trans (by rw [q2, q3, q50])).trans f3
  have q52 : s 52 = 1 := (show s 52 = opVal 19 ([0] ++ [0]) from h52).trans (opVal_19 [0] [0] rfl)
  exact ⟨q34, q35, q36, q37, q38, q39, q40, q43, q45, q46, q48, q49, q51, q52⟩
def ex16d : List Ex := [
.op 19 [.c 0, .c 0],
.op 21 [(.v 49), (.v 50), (.v 54), (.v 55)],
.op 20 [(.v 54), (.v 55)],
.op 20 [(.v 49), (.v 50)],
.op 27 [(.v 2), (.v 3), (.v 52)],
.op 26 [(.v 2), (.v 3), (.v 52)],
.op 25 [(.v 2), (.v 3), (.v 52)],
.op 2 (vsF 4),
.op 20 [(.v 2), (.v 3)],
.op 27 [(.v 0), (.v 1), (.v 47)],
.op 26 [(.v 0), (.v 1), (.v 47)],
.op 25 [(.v 0), (.v 1), (.v 47)],
.op 2 (vsF 4),
.op 20 [(.v 0), (.v 1)],
.op 25 [(.v 41), (.v 42), (.v 44)],
.op 2 (vsF 4),
.op 20 [(.v 41), (.v 42)],
.op 23 [(.v 0), (.v 1), (.v 2), (.v 3)],
.op 22 [(.v 0), (.v 1), (.v 2), (.v 3)],
.op 21 [(.v 0), (.v 1), (.v 2), (.v 3)],
.op 20 [(.v 2), (.v 3)],
.op 20 [(.v 0), (.v 1)],
.feq (.v 36) (.c 0),
.op 20 [(.v 2), (.v 3)],
.feq (.v 34) (.c 0),
.op 20 [(.v 0), (.v 1)]]
def dec16d : List (Nat × Bool) := [(34, true), (35, false), (36, true), (37, false), (38, true), (39, true), (40, false), (43, true), (45, true), (46, true), (48, false), (51, true), (53, false), (56, true), (57, true), (58, true), (59, true)]
def st16d : St := startSt [.one (.sv 0 0 57 32), .one (.sv 1 0 57 33), .agg (numsFrom .u8 4 28)] [(0, ptRow 0 1), (1, ptRow 2 3)] 34 2
def br16d : BriefR := ⟨.ret, 60, ex16d, [], [.one (.lit (.bool true))], []⟩
theorem run16d : briefR (tabZ xt1) Try.f16 [] (runF (tabZ xt1) (fixN 35 2 dec16d []) 3000 Try.f16 st16d) = some br16d := by kernel_rfl
theorem law16d {s : Nums}  {c0 : Nat} {c1 : Nat} {K0 : Nat} {x0 y0 : Nat} (lx0 : x0 < pq) (ly0 : y0 < pq) (hon0 : onN x0 y0 = 1) {x1 y1 : Nat} (lx1 : x1 < pq) (ly1 : y1 < pq) (hon1 : onN x1 y1 = 1) {X1 Y1 : Nat} (lX1 : X1 < pq) (lY1 : Y1 < pq) (on1 : onN X1 Y1 = 1) {X2 Y2 : Nat} (lX2 : X2 < pq) (lY2 : Y2 < pq) (on2 : onN X2 Y2 = 1) {X3 Y3 : Nat} (lX3 : X3 < pq) (lY3 : Y3 < pq) (on3 : onN X3 Y3 = 1) (f1 : farOf (addN x0 y0 x1 y1) = 0) (gx1 : xOf (addN x0 y0 x1 y1) = X1) (gy1 : yOf (addN x0 y0 x1 y1) = Y1) (f4 : farOf (mulN X1 Y1 K0) = 1) (f2 : farOf (mulN x0 y0 K0) = 0) (gx2 : xOf (mulN x0 y0 K0) = X2) (gy2 : yOf (mulN x0 y0 K0) = Y2) (f3 : farOf (mulN x1 y1 K0) = 0) (gx3 : xOf (mulN x1 y1 K0) = X3) (gy3 : yOf (mulN x1 y1 K0) = Y3) (f5 : farOf (addN X2 Y2 X3 Y3) = 1) (q0 : s 0 = x0) (q1 : s 1 = y0) (q2 : s 2 = x1) (q3 : s 3 = y1) (q32 : s 32 = c0) (q33 : s 33 = c1) (qK0 : ofBytes ((List.range 28).map fun i => s (4 + i)) = K0)  (h : Holds s 60 ex16d) : s 34 = 1 ∧ s 35 = 0 ∧ s 36 = 1 ∧ s 37 = 0 ∧ s 38 = 1 ∧ s 39 = 1 ∧ s 40 = 0 ∧ s 43 = 1 ∧ s 45 = 1 ∧ s 46 = 1 ∧ s 48 = 0 ∧ s 51 = 1 ∧ s 53 = 0 ∧ s 56 = 1 ∧ s 57 = 1 ∧ s 58 = 1 ∧ s 59 = 1 := by
  obtain ⟨h59, h58, h57, h56, h55, h54, h53, h52, h51, h50, h49, h48, h47, h46, h45, h44, h43, h42, h41, h40, h39, h38, h37, h36, h35, h34, _⟩ := h
  have q34 : s 34 = 1 := ((show s 34 = onN (s 0) (s 1) from h34).trans (by rw [q0, q1])).trans hon0
  have q35 : s 35 = 0 := (show s 35 = if s 34 = 0 then 1 else 0 from h35).trans (if_neg (by rw [q34]; decide))
  have q36 : s 36 = 1 := ((show s 36 = onN (s 2) (s 3) from h36).trans (by rw [q2, q3])).trans hon1
  have q37 : s 37 = 0 := (show s 37 = if s 36 = 0 then 1 else 0 from h37).trans (if_neg (by rw [q36]; decide))
  have q38 : s 38 = 1 := ((show s 38 = onN (s 0) (s 1) from h38).trans (by rw [q0, q1])).trans hon0
  have q39 : s 39 = 1 := ((show s 39 = onN (s 2) (s 3) from h39).trans (by rw [q2, q3])).trans hon1
  have q40 : s 40 = 0 := ((show s 40 = farOf (addN (s 0) (s 1) (s 2) (s 3)) from h40).trans (by rw [q0, q1, q2, q3])).trans f1
  have q41 : s 41 = X1 := ((show s 41 = xOf (addN (s 0) (s 1) (s 2) (s 3)) from h41).trans (by rw [q0, q1, q2, q3])).trans gx1
  have q42 : s 42 = Y1 := ((show s 42 = yOf (addN (s 0) (s 1) (s 2) (s 3)) from h42).trans (by rw [q0, q1, q2, q3])).trans gy1
  have q43 : s 43 = 1 := ((show s 43 = onN (s 41) (s 42) from h43).trans (by rw [q41, q42])).trans on1
  have q44 : s 44 = K0 := (show s 44 = ofBytes ((List.range 28).map fun i => s (4 + i)) from h44).trans qK0
  have q45 : s 45 = 1 := ((show s 45 = farOf (mulN (s 41) (s 42) (s 44)) from h45).trans (by rw [q41, q42, q44])).trans f4
  have q46 : s 46 = 1 := ((show s 46 = onN (s 0) (s 1) from h46).trans (by rw [q0, q1])).trans hon0
  have q47 : s 47 = K0 := (show s 47 = ofBytes ((List.range 28).map fun i => s (4 + i)) from h47).trans qK0
  have q48 : s 48 = 0 := ((show s 48 = farOf (mulN (s 0) (s 1) (s 47)) from h48).trans (by rw [q0, q1, q47])).trans f2
  have q49 : s 49 = X2 := ((show s 49 = xOf (mulN (s 0) (s 1) (s 47)) from h49).trans (by rw [q0, q1, q47])).trans gx2
  have q50 : s 50 = Y2 := ((show s 50 = yOf (mulN (s 0) (s 1) (s 47)) from h50).trans (by rw [q0, q1, q47])).trans gy2
  have q51 : s 51 = 1 := ((show s 51 = onN (s 2) (s 3) from h51).trans (by rw [q2, q3])).trans hon1
  have q52 : s 52 = K0 := (show s 52 = ofBytes ((List.range 28).map fun i => s (4 + i)) from h52).trans qK0
  have q53 : s 53 = 0 := ((show s 53 = farOf (mulN (s 2) (s 3) (s 52)) from h53).trans (by rw [q2, q3, q52])).trans f3
  have q54 : s 54 = X3 := ((show s 54 = xOf (mulN (s 2) (s 3) (s 52)) from h54).trans (by rw [q2, q3, q52])).trans gx3
  have q55 : s 55 = Y3 := ((show s 55 = yOf (mulN (s 2) (s 3) (s 52)) from h55).trans (by rw [q2, q3, q52])).trans gy3
  have q56 : s 56 = 1 := ((show s 56 = onN (s 49) (s 50) from h56).trans (by rw [q49, q50])).trans on2
  have q57 : s 57 = 1 := ((show s 57 = onN (s 54) (s 55) from h57).trans (by rw [q54, q55])).trans on3
  have q58 : s 58 = 1 := ((show s 58 = farOf (addN (s 49) (s 50) (s 54) (s 55)) from h58).trans (by rw [q49, q50, q54, q55])).trans f5
  have q59 : s 59 = 1 := (show s 59 = opVal 19 ([0] ++ [0]) from h59).trans (opVal_19 [0] [0] rfl)
  exact ⟨q34, q35, q36, q37, q38, q39, q40, q43, q45, q46, q48, q51, q53, q56, q57, q58, q59⟩
def ex16k : List Ex := [
.feq (.v 58) (.c 0),
.op 20 [(.v 46), (.v 47)],
.op 19 ((Wd.c 4 :: (bs28 46 ++ bs28 47)) ++ (Wd.c 4 :: (bs28 54 ++ bs28 55))),
.op 20 [(.v 54), (.v 55)],
.op 27 [(.v 2), (.v 3), (.v 52)],
.op 26 [(.v 2), (.v 3), (.v 52)],
.op 25 [(.v 2), (.v 3), (.v 52)],
.op 2 (vsF 4),
.op 20 [(.v 2), (.v 3)],
.op 25 [(.v 0), (.v 1), (.v 49)],
.op 2 (vsF 4),
.op 20 [(.v 0), (.v 1)],
.op 27 [(.v 41), (.v 42), (.v 44)],
.op 26 [(.v 41), (.v 42), (.v 44)],
.op 25 [(.v 41), (.v 42), (.v 44)],
.op 2 (vsF 4),
.op 20 [(.v 41), (.v 42)],
.op 23 [(.v 0), (.v 1), (.v 2), (.v 3)],
.op 22 [(.v 0), (.v 1), (.v 2), (.v 3)],
.op 21 [(.v 0), (.v 1), (.v 2), (.v 3)],
.op 20 [(.v 2), (.v 3)],
.op 20 [(.v 0), (.v 1)],
.feq (.v 36) (.c 0),
.op 20 [(.v 2), (.v 3)],
.feq (.v 34) (.c 0),
.op 20 [(.v 0), (.v 1)]]
def dec16k : List (Nat × Bool) := [(34, true), (35, false), (36, true), (37, false), (38, true), (39, true), (40, false), (43, true), (45, false), (48, true), (50, true), (51, true), (53, false), (56, true), (57, true), (58, true), (59, false)]
def st16k : St := startSt [.one (.sv 0 0 57 32), .one (.sv 1 0 57 33), .agg (numsFrom .u8 4 28)] [(0, ptRow 0 1), (1, ptRow 2 3)] 34 2
def br16k : BriefR := ⟨.ret, 60, ex16k, [], [.one (.lit (.bool true))], []⟩
theorem run16k : briefR (tabZ xt1) Try.f16 [] (runF (tabZ xt1) (fixN 35 2 dec16k []) 3000 Try.f16 st16k) = some br16k := by kernel_rfl
theorem law16k {s : Nums}  {c0 : Nat} {c1 : Nat} {K0 : Nat} {x0 y0 : Nat} (lx0 : x0 < pq) (ly0 : y0 < pq) (hon0 : onN x0 y0 = 1) {x1 y1 : Nat} (lx1 : x1 < pq) (ly1 : y1 < pq) (hon1 : onN x1 y1 = 1) {X1 Y1 : Nat} (lX1 : X1 < pq) (lY1 : Y1 < pq) (on1 : onN X1 Y1 = 1) {X4 Y4 : Nat} (lX4 : X4 < pq) (lY4 : Y4 < pq) (on4 : onN X4 Y4 = 1) (f1 : farOf (addN x0 y0 x1 y1) = 0) (gx1 : xOf (addN x0 y0 x1 y1) = X1) (gy1 : yOf (addN x0 y0 x1 y1) = Y1) (f4 : farOf (mulN X1 Y1 K0) = 0) (gx4 : xOf (mulN X1 Y1 K0) = X4) (gy4 : yOf (mulN X1 Y1 K0) = Y4) (f2 : farOf (mulN x0 y0 K0) = 1) (f3 : farOf (mulN x1 y1 K0) = 0) (gx3 : xOf (mulN x1 y1 K0) = X4) (gy3 : yOf (mulN x1 y1 K0) = Y4) (q0 : s 0 = x0) (q1 : s 1 = y0) (q2 : s 2 = x1) (q3 : s 3 = y1) (q32 : s 32 = c0) (q33 : s 33 = c1) (qK0 : ofBytes ((List.range 28).map fun i => s (4 + i)) = K0)  (h : Holds s 60 ex16k) : s 34 = 1 ∧ s 35 = 0 ∧ s 36 = 1 ∧ s 37 = 0 ∧ s 38 = 1 ∧ s 39 = 1 ∧ s 40 = 0 ∧ s 43 = 1 ∧ s 45 = 0 ∧ s 48 = 1 ∧ s 50 = 1 ∧ s 51 = 1 ∧ s 53 = 0 ∧ s 56 = 1 ∧ s 57 = 1 ∧ s 58 = 1 ∧ s 59 = 0 := by
  obtain ⟨h59, h58, h57, h56, h55, h54, h53, h52, h51, h50, h49, h48, h47, h46, h45, h44, h43, h42, h41, h40, h39, h38, h37, h36, h35, h34, _⟩ := h
  have q34 : s 34 = 1 := ((show s 34 = onN (s 0) (s 1) from h34).trans (by rw [q0, q1])).trans hon0
  have q35 : s 35 = 0 := (show s 35 = if s 34 = 0 then 1 else 0 from h35).trans (if_neg (by rw [q34]; decide))
  have q36 : s 36 = 1 := ((show s 36 = onN (s 2) (s 3) from h36).trans (by rw [q2, q3])).trans hon1
  have q37 : s 37 = 0 := (show s 37 = if s 36 = 0 then 1 else 0 from h37).trans (if_neg (by rw [q36]; decide))
  have q38 : s 38 = 1 := ((show s 38 = onN (s 0) (s 1) from h38).trans (by rw [q0, q1])).trans hon0
  have q39 : s 39 = 1 := ((show s 39 = onN (s 2) (s 3) from h39).trans (by rw [q2, q3])).trans hon1
  have q40 : s 40 = 0 := ((show s 40 = farOf (addN (s 0) (s 1) (s 2) (s 3)) from h40).trans (by rw [q0, q1, q2, q3])).trans f1
  have q41 : s 41 = X1 := ((show s 41 = xOf (addN (s 0) (s 1) (s 2) (s 3)) from h41).trans (by rw [q0, q1, q2, q3])).trans gx1
  have q42 : s 42 = Y1 := ((show s 42 = yOf (addN (s 0) (s 1) (s 2) (s 3)) from h42).trans (by rw [q0, q1, q2, q3])).trans gy1
  have q43 : s 43 = 1 := ((show s 43 = onN (s 41) (s 42) from h43).trans (by rw [q41, q42])).trans on1
  have q44 : s 44 = K0 := (show s 44 = ofBytes ((List.range 28).map fun i => s (4 + i)) from h44).trans qK0
  have q45 : s 45 = 0 := ((show s 45 = farOf (mulN (s 41) (s 42) (s 44)) from h45).trans (by rw [q41, q42, q44])).trans f4
  have q46 : s 46 = X4 := ((show s 46 = xOf (mulN (s 41) (s 42) (s 44)) from h46).trans (by rw [q41, q42, q44])).trans gx4
  have q47 : s 47 = Y4 := ((show s 47 = yOf (mulN (s 41) (s 42) (s 44)) from h47).trans (by rw [q41, q42, q44])).trans gy4
  have q48 : s 48 = 1 := ((show s 48 = onN (s 0) (s 1) from h48).trans (by rw [q0, q1])).trans hon0
  have q49 : s 49 = K0 := (show s 49 = ofBytes ((List.range 28).map fun i => s (4 + i)) from h49).trans qK0
  have q50 : s 50 = 1 := ((show s 50 = farOf (mulN (s 0) (s 1) (s 49)) from h50).trans (by rw [q0, q1, q49])).trans f2
  have q51 : s 51 = 1 := ((show s 51 = onN (s 2) (s 3) from h51).trans (by rw [q2, q3])).trans hon1
  have q52 : s 52 = K0 := (show s 52 = ofBytes ((List.range 28).map fun i => s (4 + i)) from h52).trans qK0
  have q53 : s 53 = 0 := ((show s 53 = farOf (mulN (s 2) (s 3) (s 52)) from h53).trans (by rw [q2, q3, q52])).trans f3
  have q54 : s 54 = X4 := ((show s 54 = xOf (mulN (s 2) (s 3) (s 52)) from h54).trans (by rw [q2, q3, q52])).trans gx3
  have q55 : s 55 = Y4 := ((show s 55 = yOf (mulN (s 2) (s 3) (s 52)) from h55).trans (by rw [q2, q3, q52])).trans gy3
  have q56 : s 56 = 1 := ((show s 56 = onN (s 54) (s 55) from h56).trans (by rw [q54, q55])).trans on4
  have q57 : s 57 = 1 := same_pts h57 (by rw [q46, q54]) (by rw [q47, q55])
  have q58 : s 58 = 1 := ((show s 58 = onN (s 46) (s 47) from h58).trans (by rw [q46, q47])).trans on4
  have q59 : s 59 = 0 := (show s 59 = if s 58 = 0 then 1 else 0 from h59).trans (if_neg (by rw [q58]; decide))
  exact ⟨q34, q35, q36, q37, q38, q39, q40, q43, q45, q48, q50, q51, q53, q56, q57, q58, q59⟩
def ex16l : List Ex := [
.feq (.v 58) (.c 0),
.op 20 [(.v 46), (.v 47)],
.op 19 ((Wd.c 4 :: (bs28 46 ++ bs28 47)) ++ (Wd.c 4 :: (bs28 51 ++ bs28 52))),
.op 20 [(.v 51), (.v 52)],
.op 25 [(.v 2), (.v 3), (.v 54)],
.op 2 (vsF 4),
.op 20 [(.v 2), (.v 3)],
.op 27 [(.v 0), (.v 1), (.v 49)],
.op 26 [(.v 0), (.v 1), (.v 49)],
.op 25 [(.v 0), (.v 1), (.v 49)],
.op 2 (vsF 4),
.op 20 [(.v 0), (.v 1)],
.op 27 [(.v 41), (.v 42), (.v 44)],
.op 26 [(.v 41), (.v 42), (.v 44)],
.op 25 [(.v 41), (.v 42), (.v 44)],
.op 2 (vsF 4),
.op 20 [(.v 41), (.v 42)],
.op 23 [(.v 0), (.v 1), (.v 2), (.v 3)],
.op 22 [(.v 0), (.v 1), (.v 2), (.v 3)],
.op 21 [(.v 0), (.v 1), (.v 2), (.v 3)],
.op 20 [(.v 2), (.v 3)],
.op 20 [(.v 0), (.v 1)],
.feq (.v 36) (.c 0),
.op 20 [(.v 2), (.v 3)],
.feq (.v 34) (.c 0),
.op 20 [(.v 0), (.v 1)]]
def dec16l : List (Nat × Bool) := [(34, true), (35, false), (36, true), (37, false), (38, true), (39, true), (40, false), (43, true), (45, false), (48, true), (50, false), (53, true), (55, true), (56, true), (57, true), (58, true), (59, false)]
def st16l : St := startSt [.one (.sv 0 0 57 32), .one (.sv 1 0 57 33), .agg (numsFrom .u8 4 28)] [(0, ptRow 0 1), (1, ptRow 2 3)] 34 2
def br16l : BriefR := ⟨.ret, 60, ex16l, [], [.one (.lit (.bool true))], []⟩
theorem run16l : briefR (tabZ xt1) Try.f16 [] (runF (tabZ xt1) (fixN 35 2 dec16l []) 3000 Try.f16 st16l) = some br16l := by kernel_rfl
theorem law16l {s : Nums}  {c0 : Nat} {c1 : Nat} {K0 : Nat} {x0 y0 : Nat} (lx0 : x0 < pq) (ly0 : y0 < pq) (hon0 : onN x0 y0 = 1) {x1 y1 : Nat} (lx1 : x1 < pq) (ly1 : y1 < pq) (hon1 : onN x1 y1 = 1) {X1 Y1 : Nat} (lX1 : X1 < pq) (lY1 : Y1 < pq) (on1 : onN X1 Y1 = 1) {X4 Y4 : Nat} (lX4 : X4 < pq) (lY4 : Y4 < pq) (on4 : onN X4 Y4 = 1) (f1 : farOf (addN x0 y0 x1 y1) = 0) (gx1 : xOf (addN x0 y0 x1 y1) = X1) (gy1 : yOf (addN x0 y0 x1 y1) = Y1) (f4 : farOf (mulN X1 Y1 K0) = 0) (gx4 : xOf (mulN X1 Y1 K0) = X4) (gy4 : yOf (mulN X1 Y1 K0) = Y4) (f2 : farOf (mulN x0 y0 K0) = 0) (gx2 : xOf (mulN x0 y0 K0) = X4) (gy2 : yOf (mulN x0 y0 K0) = Y4) (f3 : farOf (mulN x1 y1 K0) = 1) (q0 : s 0 = x0) (q1 : s 1 = y0) (q2 : s 2 = x1) (q3 : s 3 = y1) (q32 : s 32 = c0) (q33 : s 33 = c1) (qK0 : ofBytes ((List.range 28).map fun i => s (4 + i)) = K0)  (h : Holds s 60 ex16l) : s 34 = 1 ∧ s 35 = 0 ∧ s 36 = 1 ∧ s 37 = 0 ∧ s 38 = 1 ∧ s 39 = 1 ∧ s 40 = 0 ∧ s 43 = 1 ∧ s 45 = 0 ∧ s 48 = 1 ∧ s 50 = 0 ∧ s 53 = 1 ∧ s 55 = 1 ∧ s 56 = 1 ∧ s 57 = 1 ∧ s 58 = 1 ∧ s 59 = 0 := by
  obtain ⟨h59, h58, h57, h56, h55, h54, h53, h52, h51, h50, h49, h48, h47, h46, h45, h44, h43, h42, h41, h40, h39, h38, h37, h36, h35, h34, _⟩ := h
  have q34 : s 34 = 1 := ((show s 34 = onN (s 0) (s 1) from h34).trans (by rw [q0, q1])).trans hon0
  have q35 : s 35 = 0 := (show s 35 = if s 34 = 0 then 1 else 0 from h35).trans (if_neg (by rw [q34]; decide))
  have q36 : s 36 = 1 := ((show s 36 = onN (s 2) (s 3) from h36).trans (by rw [q2, q3])).trans hon1
  have q37 : s 37 = 0 := (show s 37 = if s 36 = 0 then 1 else 0 from h37).trans (if_neg (by rw [q36]; decide))
  have q38 : s 38 = 1 := ((show s 38 = onN (s 0) (s 1) from h38).trans (by rw [q0, q1])).trans hon0
  have q39 : s 39 = 1 := ((show s 39 = onN (s 2) (s 3) from h39).trans (by rw [q2, q3])).trans hon1
  have q40 : s 40 = 0 := ((show s 40 = farOf (addN (s 0) (s 1) (s 2) (s 3)) from h40).trans (by rw [q0, q1, q2, q3])).trans f1
  have q41 : s 41 = X1 := ((show s 41 = xOf (addN (s 0) (s 1) (s 2) (s 3)) from h41).trans (by rw [q0, q1, q2, q3])).trans gx1
  have q42 : s 42 = Y1 := ((show s 42 = yOf (addN (s 0) (s 1) (s 2) (s 3)) from h42).trans (by rw [q0, q1, q2, q3])).trans gy1
  have q43 : s 43 = 1 := ((show s 43 = onN (s 41) (s 42) from h43).trans (by rw [q41, q42])).trans on1
  have q44 : s 44 = K0 := (show s 44 = ofBytes ((List.range 28).map fun i => s (4 + i)) from h44).trans qK0
  have q45 : s 45 = 0 := ((show s 45 = farOf (mulN (s 41) (s 42) (s 44)) from h45).trans (by rw [q41, q42, q44])).trans f4
  have q46 : s 46 = X4 := ((show s 46 = xOf (mulN (s 41) (s 42) (s 44)) from h46).trans (by rw [q41, q42, q44])).trans gx4
  have q47 : s 47 = Y4 := ((show s 47 = yOf (mulN (s 41) (s 42) (s 44)) from h47).trans (by rw [q41, q42, q44])).trans gy4
  have q48 : s 48 = 1 := ((show s 48 = onN (s 0) (s 1) from h48).trans (by rw [q0, q1])).trans hon0
  have q49 : s 49 = K0 := (show s 49 = ofBytes ((List.range 28).map fun i => s (4 + i)) from h49).trans qK0
  have q50 : s 50 = 0 := ((show s 50 = farOf (mulN (s 0) (s 1) (s 49)) from h50).trans (by rw [q0, q1, q49])).trans f2
  have q51 : s 51 = X4 := ((show s 51 = xOf (mulN (s 0) (s 1) (s 49)) from h51).trans (by rw [q0, q1, q49])).trans gx2
  have q52 : s 52 = Y4 := ((show s 52 = yOf (mulN (s 0) (s 1) (s 49)) from h52).trans (by rw [q0, q1, q49])).trans gy2
  have q53 : s 53 = 1 := ((show s 53 = onN (s 2) (s 3) from h53).trans (by rw [q2, q3])).trans hon1
  have q54 : s 54 = K0 := (show s 54 = ofBytes ((List.range 28).map fun i => s (4 + i)) from h54).trans qK0
  have q55 : s 55 = 1 := ((show s 55 = farOf (mulN (s 2) (s 3) (s 54)) from h55).trans (by rw [q2, q3, q54])).trans f3
  have q56 : s 56 = 1 := ((show s 56 = onN (s 51) (s 52) from h56).trans (by rw [q51, q52])).trans on4
  have q57 : s 57 = 1 := same_pts h57 (by rw [q46, q51]) (by rw [q47, q52])
  have q58 : s 58 = 1 := ((show s 58 = onN (s 46) (s 47) from h58).trans (by rw [q46, q47])).trans on4
  have q59 : s 59 = 0 := (show s 59 = if s 58 = 0 then 1 else 0 from h59).trans (if_neg (by rw [q58]; decide))
  exact ⟨q34, q35, q36, q37, q38, q39, q40, q43, q45, q48, q50, q53, q55, q56, q57, q58, q59⟩
def ex16m : List Ex := [
.feq (.v 64) (.c 0),
.op 20 [(.v 46), (.v 47)],
.op 19 ((Wd.c 4 :: (bs28 46 ++ bs28 47)) ++ (Wd.c 4 :: (bs28 61 ++ bs28 62))),
.op 23 [(.v 51), (.v 52), (.v 56), (.v 57)],
.op 22 [(.v 51), (.v 52), (.v 56), (.v 57)],
.op 21 [(.v 51), (.v 52), (.v 56), (.v 57)],
.op 20 [(.v 56), (.v 57)],
.op 20 [(.v 51), (.v 52)],
.op 27 [(.v 2), (.v 3), (.v 54)],
.op 26 [(.v 2), (.v 3), (.v 54)],
.op 25 [(.v 2), (.v 3), (.v 54)],
.op 2 (vsF 4),
.op 20 [(.v 2), (.v 3)],
.op 27 [(.v 0), (.v 1), (.v 49)],
.op 26 [(.v 0), (.v 1), (.v 49)],
.op 25 [(.v 0), (.v 1), (.v 49)],
.op 2 (vsF 4),
.op 20 [(.v 0), (.v 1)],
.op 27 [(.v 41), (.v 42), (.v 44)],
.op 26 [(.v 41), (.v 42), (.v 44)],
.op 25 [(.v 41), (.v 42), (.v 44)],
.op 2 (vsF 4),
.op 20 [(.v 41), (.v 42)],
.op 23 [(.v 0), (.v 1), (.v 2), (.v 3)],
.op 22 [(.v 0), (.v 1), (.v 2), (.v 3)],
.op 21 [(.v 0), (.v 1), (.v 2), (.v 3)],
.op 20 [(.v 2), (.v 3)],
.op 20 [(.v 0), (.v 1)],
.feq (.v 36) (.c 0),
.op 20 [(.v 2), (.v 3)],
.feq (.v 34) (.c 0),
.op 20 [(.v 0), (.v 1)]]
def dec16m : List (Nat × Bool) := [(34, true), (35, false), (36, true), (37, false), (38, true), (39, true), (40, false), (43, true), (45, false), (48, true), (50, false), (53, true), (55, false), (58, true), (59, true), (60, false), (63, true), (64, true), (65, false)]
def st16m : St := startSt [.one (.sv 0 0 57 32), .one (.sv 1 0 57 33), .agg (numsFrom .u8 4 28)] [(0, ptRow 0 1), (1, ptRow 2 3)] 34 2
def br16m : BriefR := ⟨.ret, 66, ex16m, [], [.one (.lit (.bool true))], []⟩
theorem run16m : briefR (tabZ xt1) Try.f16 [] (runF (tabZ xt1) (fixN 35 2 dec16m []) 3000 Try.f16 st16m) = some br16m := by kernel_rfl
theorem law16m {s : Nums}  {c0 : Nat} {c1 : Nat} {K0 : Nat} {x0 y0 : Nat} (lx0 : x0 < pq) (ly0 : y0 < pq) (hon0 : onN x0 y0 = 1) {x1 y1 : Nat} (lx1 : x1 < pq) (ly1 : y1 < pq) (hon1 : onN x1 y1 = 1) {X1 Y1 : Nat} (lX1 : X1 < pq) (lY1 : Y1 < pq) (on1 : onN X1 Y1 = 1) {X4 Y4 : Nat} (lX4 : X4 < pq) (lY4 : Y4 < pq) (on4 : onN X4 Y4 = 1) {X2 Y2 : Nat} (lX2 : X2 < pq) (lY2 : Y2 < pq) (on2 : onN X2 Y2 = 1) {X3 Y3 : Nat} (lX3 : X3 < pq) (lY3 : Y3 < pq) (on3 : onN X3 Y3 = 1) (f1 : farOf (addN x0 y0 x1 y1) = 0) (gx1 : xOf (addN x0 y0 x1 y1) = X1) (gy1 : yOf (addN x0 y0 x1 y1) = Y1) (f4 : farOf (mulN X1 Y1 K0) = 0) (gx4 : xOf (mulN X1 Y1 K0) = X4) (gy4 : yOf (mulN X1 Y1 K0) = Y4) (f2 : farOf (mulN x0 y0 K0) = 0) (gx2 : xOf (mulN x0 y0 K0) = X2) (gy2 : yOf (mulN x0 y0 K0) = Y2) (f3 : farOf (mulN x1 y1 K0) = 0) (gx3 : xOf (mulN x1 y1 K0) = X3) (gy3 : yOf (mulN x1 y1 K0) = Y3) (f5 : farOf (addN X2 Y2 X3 Y3) = 0) (gx5 : xOf (addN X2 Y2 X3 Y3) = X4) (gy5 : yOf (addN X2 Y2 X3 Y3) = Y4) (q0 : s 0 = x0) (q1 : s 1 = y0) (q2 : s 2 = x1) (q3 : s 3 = y1) (q32 : s 32 = c0) (q33 : s 33 = c1) (qK0 : ofBytes ((List.range 28).map fun i => s (4 + i)) = K0)  (h : Holds s 66 ex16m) : s 34 = 1 ∧ s 35 = 0 ∧ s 36 = 1 ∧ s 37 = 0 ∧ s 38 = 1 ∧ s 39 = 1 ∧ s 40 = 0 ∧ s 43 = 1 ∧ s 45 = 0 ∧ s 48 = 1 ∧ s 50 = 0 ∧ s 53 = 1 ∧ s 55 = 0 ∧ s 58 = 1 ∧ s 59 = 1 ∧ s 60 = 0 ∧ s 63 = 1 ∧ s 64 = 1 ∧ s 65 = 0 := by
  obtain ⟨h65, h64, h63, h62, h61, h60, h59, h58, h57, h56, h55, h54, h53, h52, h51, h50, h49, h48, h47, h46, h45, h44, h43, h42, h41, h40, h39, h38, h37, h36, h35, h34, _⟩ := h
  have q34 : s 34 = 1 := ((show s 34 = onN (s 0) (s 1) from h34).trans (by rw [q0, q1])).trans hon0
  have q35 : s 35 = 0 := (show s 35 = if s 34 = 0 then 1 else 0 from h35).trans (if_neg (by rw [q34]; decide))
  have q36 : s 36 = 1 := ((show s 36 = onN (s 2) (s 3) from h36).trans (by rw [q2, q3])).trans hon1
  have q37 : s 37 = 0 := (show s 37 = if s 36 = 0 then 1 else 0 from h37).trans (if_neg (by rw [q36]; decide))
  have q38 : s 38 = 1 := ((show s 38 = onN (s 0) (s 1) from h38).trans (by rw [q0, q1])).trans hon0
  have q39 : s 39 = 1 := ((show s 39 = onN (s 2) (s 3) from h39).trans (by rw [q2, q3])).trans hon1
  have q40 : s 40 = 0 := ((show s 40 = farOf (addN (s 0) (s 1) (s 2) (s 3)) from h40).trans (by rw [q0, q1, q2, q3])).trans f1
  have q41 : s 41 = X1 := ((show s 41 = xOf (addN (s 0) (s 1) (s 2) (s 3)) from h41).trans (by rw [q0, q1, q2, q3])).trans gx1
  have q42 : s 42 = Y1 := ((show s 42 = yOf (addN (s 0) (s 1) (s 2) (s 3)) from h42).trans (by rw [q0, q1, q2, q3])).trans gy1
  have q43 : s 43 = 1 := ((show s 43 = onN (s 41) (s 42) from h43).trans (by rw [q41, q42])).trans on1
  have q44 : s 44 = K0 := (show s 44 = ofBytes ((List.range 28).map fun i => s (4 + i)) from h44).trans qK0
  have q45 : s 45 = 0 := ((show s 45 = farOf (mulN (s 41) (s 42) (s 44)) from h45).trans (by rw [q41, q42, q44])).trans f4
  have q46 : s 46 = X4 := ((show s 46 = xOf (mulN (s 41) (s 42) (s 44)) from h46).trans (by rw [q41, q42, q44])).trans gx4
  have q47 : s 47 = Y4 := ((show s 47 = yOf (mulN (s 41) (s 42) (s 44)) from h47).trans (by rw [q41, q42, q44])).trans gy4
  have q48 : s 48 = 1 := ((show s 48 = onN (s 0) (s 1) from h48).trans (by rw [q0, q1])).trans hon0
  have q49 : s 49 = K0 := (show s 49 = ofBytes ((List.range 28).map fun i => s (4 + i)) from h49).trans qK0
  have q50 : s 50 = 0 := ((show s 50 = farOf (mulN (s 0) (s 1) (s 49)) from h50).trans (by rw [q0, q1, q49])).trans f2
  have q51 : s 51 = X2 := ((show s 51 = xOf (mulN (s 0) (s 1) (s 49)) from h51).trans (by rw [q0, q1, q49])).trans gx2
  have q52 : s 52 = Y2 := ((show s 52 = yOf (mulN (s 0) (s 1) (s 49)) from h52).trans (by rw [q0, q1, q49])).trans gy2
  have q53 : s 53 = 1 := ((show s 53 = onN (s 2) (s 3) from h53).trans (by rw [q2, q3])).trans hon1
  have q54 : s 54 = K0 := (show s 54 = ofBytes ((List.range 28).map fun i => s (4 + i)) from h54).trans qK0
  have q55 : s 55 = 0 := ((show s 55 = farOf (mulN (s 2) (s 3) (s 54)) from h55).trans (by rw [q2, q3, q54])).trans f3
  have q56 : s 56 = X3 := ((show s 56 = xOf (mulN (s 2) (s 3) (s 54)) from h56).trans (by rw [q2, q3, q54])).trans gx3
  have q57 : s 57 = Y3 := ((show s 57 = yOf (mulN (s 2) (s 3) (s 54)) from h57).trans (by rw [q2, q3, q54])).trans gy3
  have q58 : s 58 = 1 := ((show s 58 = onN (s 51) (s 52) from h58).trans (by rw [q51, q52])).trans on2
  have q59 : s 59 = 1 := ((show s 59 = onN (s 56) (s 57) from h59).trans (by rw [q56, q57])).trans on3
  have q60 : s 60 = 0 := ((show s 60 = farOf (addN (s 51) (s 52) (s 56) (s 57)) from h60).trans (by rw [q51, q52, q56, q57])).trans f5
  have q61 : s 61 = X4 := ((show s 61 = xOf (addN (s 51) (s 52) (s 56) (s 57)) from h61).trans (by rw [q51, q52, q56, q57])).trans gx5
  have q62 : s 62 = Y4 := ((show s 62 = yOf (addN (s 51) (s 52) (s 56) (s 57)) from h62).trans (by rw [q51, q52, q56, q57])).trans gy5
  have q63 : s 63 = 1 := same_pts h63 (by rw [q46, q61]) (by rw [q47, q62])
  have q64 : s 64 = 1 := ((show s 64 = onN (s 46) (s 47) from h64).trans (by rw [q46, q47])).trans on4
  have q65 : s 65 = 0 := (show s 65 = if s 64 = 0 then 1 else 0 from h65).trans (if_neg (by rw [q64]; decide))
  exact ⟨q34, q35, q36, q37, q38, q39, q40, q43, q45, q48, q50, q53, q55, q58, q59, q60, q63, q64, q65⟩
theorem law16_good {w : World} {v v' : Value} (h1 : PtOf w v) (h2 : PtOf w v') {k0 : List Nat} (hk0 : Is28 k0) : Law 16 w [v, v', arrV k0] := by
  rcases h1 with ⟨b0, o0, c0, rfl, hc0, hp0⟩ | ⟨b0, o0, c0, x0, y0, rfl, hc0, hp0, lx0, ly0, hon0⟩
  · have lt0 : b0 < w.heap.size := World.block_lt_of_cell? w _ hp0
    rcases h2 with ⟨b1, o1, c1, rfl, hc1, hp1⟩ | ⟨b1, o1, c1, x1, y1, rfl, hc1, hp1, lx1, ly1, hon1⟩
    · have lt1 : b1 < w.heap.size := World.block_lt_of_cell? w _ hp1
      let S0 : Nums := fun i =>  if i < 28 then k0.getD (i - 0) 0 else if i = 28 then c0 else c1
      have ak0 : ∀ s : Nums, (∀ i, i < 30 → s i = S0 i) → ∀ m, m < 28 → s (0 + m) = k0.getD m 0 := fun s hs m hm => by
        rw [hs (0 + m) (by omega)]
        show ( if 0 + m < 28 then k0.getD (0 + m - 0) 0 else if 0 + m = 28 then c0 else c1) = _
        rw [if_pos (by omega), show 0 + m - 0 = m by omega]
      refine calls_briefR (F := fixN 35 2 dec16f []) (tabZ_ok xt1_ok) run16f Try.func16 Try.ntmps16 rfl (by decide +kernel) (by decide +kernel) (by decide +kernel) (show 3 ≤ 35 by decide) (show 3 < 4095 by decide) S0 (fun r => if r = 0 then (b0, o0) else (b1, o1))
        (vals := [_, _, arrV k0]) (fun s hs => ⟨⟨by rw [hs 28 (by decide)]; rfl, by rw [hs 28 (by decide)]; exact hc0, show 0 < 2 by decide⟩, ⟨by rw [hs 29 (by decide)]; rfl, by rw [hs 29 (by decide)]; exact hc1, show 1 < 2 by decide⟩, agg_rep hk0 (ak0 s hs), trivial⟩) (fun s hs => ⟨show 0 < 2 by decide, ⟨⟨_, hp0, rfl⟩, trivial⟩, show 1 < 2 by decide, ⟨⟨_, hp1, rfl⟩, trivial⟩, trivial⟩) (fun r l hl hr => by cases hr) (fun r _ => (by show (if r = 0 then (b0, o0) else (b1, o1)).1 < _; split; exact lt0; exact lt1)) (fun r q _ _ h => by cases h) ?_ ?_
      · intro s hs hH i bb hb
        have q33 := law16f (c0 := c0) (c1 := c1) (K0 := ofBytes k0)  (hs 28 (by decide)) (hs 29 (by decide)) (kb_of hk0 (ak0 s hs)) hH
        have := findT_mem (show findT i dec16f = some bb from hb)
        simp only [dec16f, List.mem_cons, List.not_mem_nil, or_false, Prod.mk.injEq] at this
        obtain ⟨rfl, rfl⟩ := this
        assumption
      · intro s hs hH st' β' a' w' v hv hm hag hr hbe
        have hv' : v = .bool true := hv
        exact ⟨by rw [hv'], hbe⟩
    · have lt1 : b1 < w.heap.size := World.block_lt_of_cell? w _ (hp1 0 4 rfl)
      rcases mul_cases hon1 (ofBytes k0) with ⟨f3, e3⟩ | ⟨X3, Y3, f3, gx3, gy3, lX3, lY3, on3, e3⟩
      · skip
        let S0 : Nums := fun i => if i = 0 then x1 else if i = 1 then y1 else if i < 30 then k0.getD (i - 2) 0 else if i = 30 then c0 else c1
        have ak0 : ∀ s : Nums, (∀ i, i < 32 → s i = S0 i) → ∀ m, m < 28 → s (2 + m) = k0.getD m 0 := fun s hs m hm => by
          rw [hs (2 + m) (by omega)]
          show (if 2 + m = 0 then x1 else if 2 + m = 1 then y1 else if 2 + m < 30 then k0.getD (2 + m - 2) 0 else if 2 + m = 30 then c0 else c1) = _
          rw [if_neg (by omega), if_neg (by omega), if_pos (by omega), show 2 + m - 2 = m by omega]
        refine calls_briefR (F := fixN 35 2 dec16g []) (tabZ_ok xt1_ok) run16g Try.func16 Try.ntmps16 rfl (by decide +kernel) (by decide +kernel) (by decide +kernel) (show 3 ≤ 35 by decide) (show 3 < 4095 by decide) S0 (fun r => if r = 0 then (b0, o0) else (b1, o1))
          (vals := [_, _, arrV k0]) (fun s hs => ⟨⟨by rw [hs 30 (by decide)]; rfl, by rw [hs 30 (by decide)]; exact hc0, show 0 < 2 by decide⟩, ⟨by rw [hs 31 (by decide)]; rfl, by rw [hs 31 (by decide)]; exact hc1, show 1 < 2 by decide⟩, agg_rep hk0 (ak0 s hs), trivial⟩) (fun s hs => ⟨show 0 < 2 by decide, ⟨⟨_, hp0, rfl⟩, trivial⟩, show 1 < 2 by decide, ptRow_row rfl hp1 (hs 0 (by decide)) (hs 1 (by decide)) lx1 ly1, trivial⟩) (fun r l hl hr => by cases hr) (fun r _ => (by show (if r = 0 then (b0, o0) else (b1, o1)).1 < _; split; exact lt0; exact lt1)) (fun r q _ _ h => by cases h) ?_ ?_
        · intro s hs hH i bb hb
          obtain ⟨q32, q33, q34, q35, q37, q39, q41, q42⟩ := law16g (c0 := c0) (c1 := c1) (K0 := ofBytes k0) (x1 := x1) (y1 := y1) lx1 ly1 hon1 f3 (hs 0 (by decide)) (hs 1 (by decide)) (hs 30 (by decide)) (hs 31 (by decide)) (kb_of hk0 (ak0 s hs)) hH
          have := findT_mem (show findT i dec16g = some bb from hb)
          simp only [dec16g, List.mem_cons, List.not_mem_nil, or_false, Prod.mk.injEq] at this
          rcases this with ⟨rfl, rfl⟩ | ⟨rfl, rfl⟩ | ⟨rfl, rfl⟩ | ⟨rfl, rfl⟩ | ⟨rfl, rfl⟩ | ⟨rfl, rfl⟩ | ⟨rfl, rfl⟩ | ⟨rfl, rfl⟩ <;> assumption
        · intro s hs hH st' β' a' w' v hv hm hag hr hbe
          have hv' : v = .bool true := hv
          exact ⟨by rw [hv'], hbe⟩
      · skip
        let S0 : Nums := fun i => if i = 0 then x1 else if i = 1 then y1 else if i < 30 then k0.getD (i - 2) 0 else if i = 30 then c0 else c1
        have ak0 : ∀ s : Nums, (∀ i, i < 32 → s i = S0 i) → ∀ m, m < 28 → s (2 + m) = k0.getD m 0 := fun s hs m hm => by
          rw [hs (2 + m) (by omega)]
          show (if 2 + m = 0 then x1 else if 2 + m = 1 then y1 else if 2 + m < 30 then k0.getD (2 + m - 2) 0 else if 2 + m = 30 then c0 else c1) = _
          rw [if_neg (by omega), if_neg (by omega), if_pos (by omega), show 2 + m - 2 = m by omega]
        refine calls_briefR (F := fixN 35 2 dec16h []) (tabZ_ok xt1_ok) run16h Try.func16 Try.ntmps16 rfl (by decide +kernel) (by decide +kernel) (by decide +kernel) (show 3 ≤ 35 by decide) (show 3 < 4095 by decide) S0 (fun r => if r = 0 then (b0, o0) else (b1, o1))
          (vals := [_, _, arrV k0]) (fun s hs => ⟨⟨by rw [hs 30 (by decide)]; rfl, by rw [hs 30 (by decide)]; exact hc0, show 0 < 2 by decide⟩, ⟨by rw [hs 31 (by decide)]; rfl, by rw [hs 31 (by decide)]; exact hc1, show 1 < 2 by decide⟩, agg_rep hk0 (ak0 s hs), trivial⟩) (fun s hs => ⟨show 0 < 2 by decide, ⟨⟨_, hp0, rfl⟩, trivial⟩, show 1 < 2 by decide, ptRow_row rfl hp1 (hs 0 (by decide)) (hs 1 (by decide)) lx1 ly1, trivial⟩) (fun r l hl hr => by cases hr) (fun r _ => (by show (if r = 0 then (b0, o0) else (b1, o1)).1 < _; split; exact lt0; exact lt1)) (fun r q _ _ h => by cases h) ?_ ?_
        · intro s hs hH i bb hb
          obtain ⟨q32, q33, q34, q35, q37, q41, q43, q46, q47, q48, q49⟩ := law16h (c0 := c0) (c1 := c1) (K0 := ofBytes k0) (x1 := x1) (y1 := y1) lx1 ly1 hon1 lX3 lY3 on3 f3 gx3 gy3 (hs 0 (by decide)) (hs 1 (by decide)) (hs 30 (by decide)) (hs 31 (by decide)) (kb_of hk0 (ak0 s hs)) hH
          have := findT_mem (show findT i dec16h = some bb from hb)
          simp only [dec16h, List.mem_cons, List.not_mem_nil, or_false, Prod.mk.injEq] at this
          rcases this with ⟨rfl, rfl⟩ | ⟨rfl, rfl⟩ | ⟨rfl, rfl⟩ | ⟨rfl, rfl⟩ | ⟨rfl, rfl⟩ | ⟨rfl, rfl⟩ | ⟨rfl, rfl⟩ | ⟨rfl, rfl⟩ | ⟨rfl, rfl⟩ | ⟨rfl, rfl⟩ | ⟨rfl, rfl⟩ <;> assumption
        · intro s hs hH st' β' a' w' v hv hm hag hr hbe
          have hv' : v = .bool true := hv
          exact ⟨by rw [hv'], hbe⟩
  · have lt0 : b0 < w.heap.size := World.block_lt_of_cell? w _ (hp0 0 4 rfl)
    rcases h2 with ⟨b1, o1, c1, rfl, hc1, hp1⟩ | ⟨b1, o1, c1, x1, y1, rfl, hc1, hp1, lx1, ly1, hon1⟩
    · have lt1 : b1 < w.heap.size := World.block_lt_of_cell? w _ hp1
      rcases mul_cases hon0 (ofBytes k0) with ⟨f2, e2⟩ | ⟨X2, Y2, f2, gx2, gy2, lX2, lY2, on2, e2⟩
      · skip
        let S0 : Nums := fun i => if i = 0 then x0 else if i = 1 then y0 else if i < 30 then k0.getD (i - 2) 0 else if i = 30 then c0 else c1
        have ak0 : ∀ s : Nums, (∀ i, i < 32 → s i = S0 i) → ∀ m, m < 28 → s (2 + m) = k0.getD m 0 := fun s hs m hm => by
          rw [hs (2 + m) (by omega)]
          show (if 2 + m = 0 then x0 else if 2 + m = 1 then y0 else if 2 + m < 30 then k0.getD (2 + m - 2) 0 else if 2 + m = 30 then c0 else c1) = _
          rw [if_neg (by omega), if_neg (by omega), if_pos (by omega), show 2 + m - 2 = m by omega]
        refine calls_briefR (F := fixN 35 2 dec16i []) (tabZ_ok xt1_ok) run16i Try.func16 Try.ntmps16 rfl (by decide +kernel) (by decide +kernel) (by decide +kernel) (show 3 ≤ 35 by decide) (show 3 < 4095 by decide) S0 (fun r => if r = 0 then (b0, o0) else (b1, o1))
          (vals := [_, _, arrV k0]) (fun s hs => ⟨⟨by rw [hs 30 (by decide)]; rfl, by rw [hs 30 (by decide)]; exact hc0, show 0 < 2 by decide⟩, ⟨by rw [hs 31 (by decide)]; rfl, by rw [hs 31 (by decide)]; exact hc1, show 1 < 2 by decide⟩, agg_rep hk0 (ak0 s hs), trivial⟩) (fun s hs => ⟨show 0 < 2 by decide, ptRow_row rfl hp0 (hs 0 (by decide)) (hs 1 (by decide)) lx0 ly0, show 1 < 2 by decide, ⟨⟨_, hp1, rfl⟩, trivial⟩, trivial⟩) (fun r l hl hr => by cases hr) (fun r _ => (by show (if r = 0 then (b0, o0) else (b1, o1)).1 < _; split; exact lt0; exact lt1)) (fun r q _ _ h => by cases h) ?_ ?_
        · intro s hs hH i bb hb
          obtain ⟨q32, q33, q34, q35, q37, q38, q40, q42⟩ := law16i (c0 := c0) (c1 := c1) (K0 := ofBytes k0) (x0 := x0) (y0 := y0) lx0 ly0 hon0 f2 (hs 0 (by decide)) (hs 1 (by decide)) (hs 30 (by decide)) (hs 31 (by decide)) (kb_of hk0 (ak0 s hs)) hH
          have := findT_mem (show findT i dec16i = some bb from hb)
          simp only [dec16i, List.mem_cons, List.not_mem_nil, or_false, Prod.mk.injEq] at this
          rcases this with ⟨rfl, rfl⟩ | ⟨rfl, rfl⟩ | ⟨rfl, rfl⟩ | ⟨rfl, rfl⟩ | ⟨rfl, rfl⟩ | ⟨rfl, rfl⟩ | ⟨rfl, rfl⟩ | ⟨rfl, rfl⟩ <;> assumption
        · intro s hs hH st' β' a' w' v hv hm hag hr hbe
          have hv' : v = .bool true := hv
          exact ⟨by rw [hv'], hbe⟩
      · skip
        let S0 : Nums := fun i => if i = 0 then x0 else if i = 1 then y0 else if i < 30 then k0.getD (i - 2) 0 else if i = 30 then c0 else c1
        have ak0 : ∀ s : Nums, (∀ i, i < 32 → s i = S0 i) → ∀ m, m < 28 → s (2 + m) = k0.getD m 0 := fun s hs m hm => by
          rw [hs (2 + m) (by omega)]
          show (if 2 + m = 0 then x0 else if 2 + m = 1 then y0 else if 2 + m < 30 then k0.getD (2 + m - 2) 0 else if 2 + m = 30 then c0 else c1) = _
          rw [if_neg (by omega), if_neg (by omega), if_pos (by omega), show 2 + m - 2 = m by omega]
        refine calls_briefR (F := fixN 35 2 dec16j []) (tabZ_ok xt1_ok) run16j Try.func16 Try.ntmps16 rfl (by decide +kernel) (by decide +kernel) (by decide +kernel) (show 3 ≤ 35 by decide) (show 3 < 4095 by decide) S0 (fun r => if r = 0 then (b0, o0) else (b1, o1))
          (vals := [_, _, arrV k0]) (fun s hs => ⟨⟨by rw [hs 30 (by decide)]; rfl, by rw [hs 30 (by decide)]; exact hc0, show 0 < 2 by decide⟩, ⟨by rw [hs 31 (by decide)]; rfl, by rw [hs 31 (by decide)]; exact hc1, show 1 < 2 by decide⟩, agg_rep hk0 (ak0 s hs), trivial⟩) (fun s hs => ⟨show 0 < 2 by decide, ptRow_row rfl hp0 (hs 0 (by decide)) (hs 1 (by decide)) lx0 ly0, show 1 < 2 by decide, ⟨⟨_, hp1, rfl⟩, trivial⟩, trivial⟩) (fun r l hl hr => by cases hr) (fun r _ => (by show (if r = 0 then (b0, o0) else (b1, o1)).1 < _; split; exact lt0; exact lt1)) (fun r q _ _ h => by cases h) ?_ ?_
        · intro s hs hH i bb hb
          obtain ⟨q32, q33, q34, q35, q37, q40, q42, q46, q47, q48, q49⟩ := law16j (c0 := c0) (c1 := c1) (K0 := ofBytes k0) (x0 := x0) (y0 := y0) lx0 ly0 hon0 lX2 lY2 on2 f2 gx2 gy2 (hs 0 (by decide)) (hs 1 (by decide)) (hs 30 (by decide)) (hs 31 (by decide)) (kb_of hk0 (ak0 s hs)) hH
          have := findT_mem (show findT i dec16j = some bb from hb)
          simp only [dec16j, List.mem_cons, List.not_mem_nil, or_false, Prod.mk.injEq] at this
          rcases this with ⟨rfl, rfl⟩ | ⟨rfl, rfl⟩ | ⟨rfl, rfl⟩ | ⟨rfl, rfl⟩ | ⟨rfl, rfl⟩ | ⟨rfl, rfl⟩ | ⟨rfl, rfl⟩ | ⟨rfl, rfl⟩ | ⟨rfl, rfl⟩ | ⟨rfl, rfl⟩ | ⟨rfl, rfl⟩ <;> assumption
        · intro s hs hH st' β' a' w' v hv hm hag hr hbe
          have hv' : v = .bool true := hv
          exact ⟨by rw [hv'], hbe⟩
    · have lt1 : b1 < w.heap.size := World.block_lt_of_cell? w _ (hp1 0 4 rfl)
      have spread : nsmul (ofBytes k0) (addN x0 y0 x1 y1) = padd (mulN x0 y0 (ofBytes k0)) (mulN x1 y1 (ofBytes k0)) := nsmul_padd fine (onN_on hon0) (onN_on hon1) _
      rcases add_cases hon0 hon1 with ⟨f1, e1⟩ | ⟨X1, Y1, f1, gx1, gy1, lX1, lY1, on1, e1⟩
      · rw [e1, nsmul_far] at spread
        rcases mul_cases hon0 (ofBytes k0) with ⟨f2, e2⟩ | ⟨X2, Y2, f2, gx2, gy2, lX2, lY2, on2, e2⟩
        · have f3 : farOf (mulN x1 y1 (ofBytes k0)) = 1 := is_far (by rw [e2, far_padd] at spread; exact spread.symm)
          let S0 : Nums := fun i => if i = 0 then x0 else if i = 1 then y0 else if i = 2 then x1 else if i = 3 then y1 else if i < 32 then k0.getD (i - 4) 0 else if i = 32 then c0 else c1
          have ak0 : ∀ s : Nums, (∀ i, i < 34 → s i = S0 i) → ∀ m, m < 28 → s (4 + m) = k0.getD m 0 := fun s hs m hm => by
            rw [hs (4 + m) (by omega)]
            show (if 4 + m = 0 then x0 else if 4 + m = 1 then y0 else if 4 + m = 2 then x1 else if 4 + m = 3 then y1 else if 4 + m < 32 then k0.getD (4 + m - 4) 0 else if 4 + m = 32 then c0 else c1) = _
            rw [if_neg (by omega), if_neg (by omega), if_neg (by omega), if_neg (by omega), if_pos (by omega), show 4 + m - 4 = m by omega]
          refine calls_briefR (F := fixN 35 2 dec16a []) (tabZ_ok xt1_ok) run16a Try.func16 Try.ntmps16 rfl (by decide +kernel) (by decide +kernel) (by decide +kernel) (show 3 ≤ 35 by decide) (show 3 < 4095 by decide) S0 (fun r => if r = 0 then (b0, o0) else (b1, o1))
            (vals := [_, _, arrV k0]) (fun s hs => ⟨⟨by rw [hs 32 (by decide)]; rfl, by rw [hs 32 (by decide)]; exact hc0, show 0 < 2 by decide⟩, ⟨by rw [hs 33 (by decide)]; rfl, by rw [hs 33 (by decide)]; exact hc1, show 1 < 2 by decide⟩, agg_rep hk0 (ak0 s hs), trivial⟩) (fun s hs => ⟨show 0 < 2 by decide, ptRow_row rfl hp0 (hs 0 (by decide)) (hs 1 (by decide)) lx0 ly0, show 1 < 2 by decide, ptRow_row rfl hp1 (hs 2 (by decide)) (hs 3 (by decide)) lx1 ly1, trivial⟩) (fun r l hl hr => by cases hr) (fun r _ => (by show (if r = 0 then (b0, o0) else (b1, o1)).1 < _; split; exact lt0; exact lt1)) (fun r q _ _ h => by cases h) ?_ ?_
          · intro s hs hH i bb hb
            obtain ⟨q34, q35, q36, q37, q38, q39, q40, q42, q44, q45, q47, q48⟩ := law16a (c0 := c0) (c1 := c1) (K0 := ofBytes k0) (x0 := x0) (y0 := y0) (x1 := x1) (y1 := y1) lx0 ly0 hon0 lx1 ly1 hon1 f1 f2 f3 (hs 0 (by decide)) (hs 1 (by decide)) (hs 2 (by decide)) (hs 3 (by decide)) (hs 32 (by decide)) (hs 33 (by decide)) (kb_of hk0 (ak0 s hs)) hH
            have := findT_mem (show findT i dec16a = some bb from hb)
            simp only [dec16a, List.mem_cons, List.not_mem_nil, or_false, Prod.mk.injEq] at this
            rcases this with ⟨rfl, rfl⟩ | ⟨rfl, rfl⟩ | ⟨rfl, rfl⟩ | ⟨rfl, rfl⟩ | ⟨rfl, rfl⟩ | ⟨rfl, rfl⟩ | ⟨rfl, rfl⟩ | ⟨rfl, rfl⟩ | ⟨rfl, rfl⟩ | ⟨rfl, rfl⟩ | ⟨rfl, rfl⟩ | ⟨rfl, rfl⟩ <;> assumption
          · intro s hs hH st' β' a' w' v hv hm hag hr hbe
            have hv' : v = .bool true := hv
            exact ⟨by rw [hv'], hbe⟩
        · rcases mul_cases hon1 (ofBytes k0) with ⟨f3, e3⟩ | ⟨X3, Y3, f3, gx3, gy3, lX3, lY3, on3, e3⟩
          · rw [e2, e3, padd_far_r] at spread
            exact absurd spread.symm pt_ne
          · have f5 : farOf (addN X2 Y2 X3 Y3) = 1 := is_far (by rw [e2, e3] at spread; exact spread.symm)
            let S0 : Nums := fun i => if i = 0 then x0 else if i = 1 then y0 else if i = 2 then x1 else if i = 3 then y1 else if i < 32 then k0.getD (i - 4) 0 else if i = 32 then c0 else c1
            have ak0 : ∀ s : Nums, (∀ i, i < 34 → s i = S0 i) → ∀ m, m < 28 → s (4 + m) = k0.getD m 0 := fun s hs m hm => by
              rw [hs (4 + m) (by omega)]
              show (if 4 + m = 0 then x0 else if 4 + m = 1 then y0 else if 4 + m = 2 then x1 else if 4 + m = 3 then y1 else if 4 + m < 32 then k0.getD (4 + m - 4) 0 else if 4 + m = 32 then c0 else c1) = _
              rw [if_neg (by omega), if_neg (by omega), if_neg (by omega), if_neg (by omega), if_pos (by omega), show 4 + m - 4 = m by omega]
            refine calls_briefR (F := fixN 35 2 dec16b []) (tabZ_ok xt1_ok) run16b Try.func16 Try.ntmps16 rfl (by decide +kernel) (by decide +kernel) (by decide +kernel) (show 3 ≤ 35 by decide) (show 3 < 4095 by decide) S0 (fun r => if r = 0 then (b0, o0) else (b1, o1))
              (vals := [_, _, arrV k0]) (fun s hs => ⟨⟨by rw [hs 32 (by decide)]; rfl, by rw [hs 32 (by decide)]; exact hc0, show 0 < 2 by decide⟩, ⟨by rw [hs 33 (by decide)]; rfl, by rw [hs 33 (by decide)]; exact hc1, show 1 < 2 by decide⟩, agg_rep hk0 (ak0 s hs), trivial⟩) (fun s hs => ⟨show 0 < 2 by decide, ptRow_row rfl hp0 (hs 0 (by decide)) (hs 1 (by decide)) lx0 ly0, show 1 < 2 by decide, ptRow_row rfl hp1 (hs 2 (by decide)) (hs 3 (by decide)) lx1 ly1, trivial⟩) (fun r l hl hr => by cases hr) (fun r _ => (by show (if r = 0 then (b0, o0) else (b1, o1)).1 < _; split; exact lt0; exact lt1)) (fun r q _ _ h => by cases h) ?_ ?_
            · intro s hs hH i bb hb
              obtain ⟨q34, q35, q36, q37, q38, q39, q40, q42, q44, q47, q49, q52, q53, q54, q55⟩ := law16b (c0 := c0) (c1 := c1) (K0 := ofBytes k0) (x0 := x0) (y0 := y0) (x1 := x1) (y1 := y1) lx0 ly0 hon0 lx1 ly1 hon1 lX2 lY2 on2 lX3 lY3 on3 f1 f2 gx2 gy2 f3 gx3 gy3 f5 (hs 0 (by decide)) (hs 1 (by decide)) (hs 2 (by decide)) (hs 3 (by decide)) (hs 32 (by decide)) (hs 33 (by decide)) (kb_of hk0 (ak0 s hs)) hH
              have := findT_mem (show findT i dec16b = some bb from hb)
              simp only [dec16b, List.mem_cons, List.not_mem_nil, or_false, Prod.mk.injEq] at this
              rcases this with ⟨rfl, rfl⟩ | ⟨rfl, rfl⟩ | ⟨rfl, rfl⟩ | ⟨rfl, rfl⟩ | ⟨rfl, rfl⟩ | ⟨rfl, rfl⟩ | ⟨rfl, rfl⟩ | ⟨rfl, rfl⟩ | ⟨rfl, rfl⟩ | ⟨rfl, rfl⟩ | ⟨rfl, rfl⟩ | ⟨rfl, rfl⟩ | ⟨rfl, rfl⟩ | ⟨rfl, rfl⟩ | ⟨rfl, rfl⟩ <;> assumption
            · intro s hs hH st' β' a' w' v hv hm hag hr hbe
              have hv' : v = .bool true := hv
              exact ⟨by rw [hv'], hbe⟩
      · rw [e1] at spread
        have spread : mulN X1 Y1 (ofBytes k0) = padd (mulN x0 y0 (ofBytes k0)) (mulN x1 y1 (ofBytes k0)) := spread
        rcases mul_cases on1 (ofBytes k0) with ⟨f4, e4⟩ | ⟨X4, Y4, f4, gx4, gy4, lX4, lY4, on4, e4⟩
        · rw [e4] at spread
          rcases mul_cases hon0 (ofBytes k0) with ⟨f2, e2⟩ | ⟨X2, Y2, f2, gx2, gy2, lX2, lY2, on2, e2⟩
          · have f3 : farOf (mulN x1 y1 (ofBytes k0)) = 1 := is_far (by rw [e2, far_padd] at spread; exact spread.symm)
            let S0 : Nums := fun i => if i = 0 then x0 else if i = 1 then y0 else if i = 2 then x1 else if i = 3 then y1 else if i < 32 then k0.getD (i - 4) 0 else if i = 32 then c0 else c1
            have ak0 : ∀ s : Nums, (∀ i, i < 34 → s i = S0 i) → ∀ m, m < 28 → s (4 + m) = k0.getD m 0 := fun s hs m hm => by
              rw [hs (4 + m) (by omega)]
              show (if 4 + m = 0 then x0 else if 4 + m = 1 then y0 else if 4 + m = 2 then x1 else if 4 + m = 3 then y1 else if 4 + m < 32 then k0.getD (4 + m - 4) 0 else if 4 + m = 32 then c0 else c1) = _
              rw [if_neg (by omega), if_neg (by omega), if_neg (by omega), if_neg (by omega), if_pos (by omega), show 4 + m - 4 = m by omega]
            refine calls_briefR (F := fixN 35 2 dec16c []) (tabZ_ok xt1_ok) run16c Try.func16 Try.ntmps16 rfl (by decide +kernel) (by decide +kernel) (by decide +kernel) (show 3 ≤ 35 by decide) (show 3 < 4095 by decide) S0 (fun r => if r = 0 then (b0, o0) else (b1, o1))
              (vals := [_, _, arrV k0]) (fun s hs => ⟨⟨by rw [hs 32 (by decide)]; rfl, by rw [hs 32 (by decide)]; exact hc0, show 0 < 2 by decide⟩, ⟨by rw [hs 33 (by decide)]; rfl, by rw [hs 33 (by decide)]; exact hc1, show 1 < 2 by decide⟩, agg_rep hk0 (ak0 s hs), trivial⟩) (fun s hs => ⟨show 0 < 2 by decide, ptRow_row rfl hp0 (hs 0 (by decide)) (hs 1 (by decide)) lx0 ly0, show 1 < 2 by decide, ptRow_row rfl hp1 (hs 2 (by decide)) (hs 3 (by decide)) lx1 ly1, trivial⟩) (fun r l hl hr => by cases hr) (fun r _ => (by show (if r = 0 then (b0, o0) else (b1, o1)).1 < _; split; exact lt0; exact lt1)) (fun r q _ _ h => by cases h) ?_ ?_
            · intro s hs hH i bb hb
              obtain ⟨q34, q35, q36, q37, q38, q39, q40, q43, q45, q46, q48, q49, q51, q52⟩ := law16c (c0 := c0) (c1 := c1) (K0 := ofBytes k0) (x0 := x0) (y0 := y0) (x1 := x1) (y1 := y1) lx0 ly0 hon0 lx1 ly1 hon1 lX1 lY1 on1 f1 gx1 gy1 f4 f2 f3 (hs 0 (by decide)) (hs 1 (by decide)) (hs 2 (by decide)) (hs 3 (by decide)) (hs 32 (by decide)) (hs 33 (by decide)) (kb_of hk0 (ak0 s hs)) hH
              have := findT_mem (show findT i dec16c = some bb from hb)
              simp only [dec16c, List.mem_cons, List.not_mem_nil, or_false, Prod.mk.injEq] at this
              rcases this with ⟨rfl, rfl⟩ | ⟨rfl, rfl⟩ | ⟨rfl, rfl⟩ | ⟨rfl, rfl⟩ | ⟨rfl, rfl⟩ | ⟨rfl, rfl⟩ | ⟨rfl, rfl⟩ | ⟨rfl, rfl⟩ | ⟨rfl, rfl⟩ | ⟨rfl, rfl⟩ | ⟨rfl, rfl⟩ | ⟨rfl, rfl⟩ | ⟨rfl, rfl⟩ | ⟨rfl, rfl⟩ <;> assumption
            · intro s hs hH st' β' a' w' v hv hm hag hr hbe
              have hv' : v = .bool true := hv
              exact ⟨by rw [hv'], hbe⟩
          · rcases mul_cases hon1 (ofBytes k0) with ⟨f3, e3⟩ | ⟨X3, Y3, f3, gx3, gy3, lX3, lY3, on3, e3⟩
            · rw [e2, e3, padd_far_r] at spread
              exact absurd spread.symm pt_ne
            · have f5 : farOf (addN X2 Y2 X3 Y3) = 1 := is_far (by rw [e2, e3] at spread; exact spread.symm)
              let S0 : Nums := fun i => if i = 0 then x0 else if i = 1 then y0 else if i = 2 then x1 else if i = 3 then y1 else if i < 32 then k0.getD (i - 4) 0 else if i = 32 then c0 else c1
              have ak0 : ∀ s : Nums, (∀ i, i < 34 → s i = S0 i) → ∀ m, m < 28 → s (4 + m) = k0.getD m 0 := fun s hs m hm => by
                rw [hs (4 + m) (by omega)]
                show (if 4 + m = 0 then x0 else if 4 + m = 1 then y0 else if 4 + m = 2 then x1 else if 4 + m = 3 then y1 else if 4 + m < 32 then k0.getD (4 + m - 4) 0 else if 4 + m = 32 then c0 else c1) = _
                rw [if_neg (by omega), if_neg (by omega), if_neg (by omega), if_neg (by omega), if_pos (by omega), show 4 + m - 4 = m by omega]
              refine calls_briefR (F := fixN 35 2 dec16d []) (tabZ_ok xt1_ok) run16d Try.func16 Try.ntmps16 rfl (by decide +kernel) (by decide +kernel) (by decide +kernel) (show 3 ≤ 35 by decide) (show 3 < 4095 by decide) S0 (fun r => if r = 0 then (b0, o0) else (b1, o1))
                (vals := [_, _, arrV k0]) (fun s hs => ⟨⟨by rw [hs 32 (by decide)]; rfl, by rw [hs 32 (by decide)]; exact hc0, show 0 < 2 by decide⟩, ⟨by rw [hs 33 (by decide)]; rfl, by rw [hs 33 (by decide)]; exact hc1, show 1 < 2 by decide⟩, agg_rep hk0 (ak0 s hs), trivial⟩) (fun s hs => ⟨show 0 < 2 by decide, ptRow_row rfl hp0 (hs 0 (by decide)) (hs 1 (by decide)) lx0 ly0, show 1 < 2 by decide, ptRow_row rfl hp1 (hs 2 (by decide)) (hs 3 (by decide)) lx1 ly1, trivial⟩) (fun r l hl hr => by cases hr) (fun r _ => (by show (if r = 0 then (b0, o0) else (b1, o1)).1 < _; split; exact lt0; exact lt1)) (fun r q _ _ h => by cases h) ?_ ?_
              · intro s hs hH i bb hb
                obtain ⟨q34, q35, q36, q37, q38, q39, q40, q43, q45, q46, q48, q51, q53, q56, q57, q58, q59⟩ := law16d (c0 := c0) (c1 := c1) (K0 := ofBytes k0) (x0 := x0) (y0 := y0) (x1 := x1) (y1 := y1) lx0 ly0 hon0 lx1 ly1 hon1 lX1 lY1 on1 lX2 lY2 on2 lX3 lY3 on3 f1 gx1 gy1 f4 f2 gx2 gy2 f3 gx3 gy3 f5 (hs 0 (by decide)) (hs 1 (by decide)) (hs 2 (by decide)) (hs 3 (by decide)) (hs 32 (by decide)) (hs 33 (by decide)) (kb_of hk0 (ak0 s hs)) hH
                have := findT_mem (show findT i dec16d = some bb from hb)
                simp only [dec16d, List.mem_cons, List.not_mem_nil, or_false, Prod.mk.injEq] at this
                rcases this with ⟨rfl, rfl⟩ | ⟨rfl, rfl⟩ | ⟨rfl, rfl⟩ | ⟨rfl, rfl⟩ | ⟨rfl, rfl⟩ | ⟨rfl, rfl⟩ | ⟨rfl, rfl⟩ | ⟨rfl, rfl⟩ | ⟨rfl, rfl⟩ | ⟨rfl, rfl⟩ | ⟨rfl, rfl⟩ | ⟨rfl, rfl⟩ | ⟨rfl, rfl⟩ | ⟨rfl, rfl⟩ | ⟨rfl, rfl⟩ | ⟨rfl, rfl⟩ | ⟨rfl, rfl⟩ <;> assumption
              · intro s hs hH st' β' a' w' v hv hm hag hr hbe
                have hv' : v = .bool true := hv
                exact ⟨by rw [hv'], hbe⟩
        · rw [e4] at spread
          rcases mul_cases hon0 (ofBytes k0) with ⟨f2, e2⟩ | ⟨X2, Y2, f2, gx2, gy2, lX2, lY2, on2, e2⟩
          · obtain ⟨f3, gx3, gy3⟩ := is_pt (p := mulN x1 y1 (ofBytes k0)) (by rw [e2, far_padd] at spread; exact spread.symm) lX4 lY4
            let S0 : Nums := fun i => if i = 0 then x0 else if i = 1 then y0 else if i = 2 then x1 else if i = 3 then y1 else if i < 32 then k0.getD (i - 4) 0 else if i = 32 then c0 else c1
            have ak0 : ∀ s : Nums, (∀ i, i < 34 → s i = S0 i) → ∀ m, m < 28 → s (4 + m) = k0.getD m 0 := fun s hs m hm => by
              rw [hs (4 + m) (by omega)]
              show (if 4 + m = 0 then x0 else if 4 + m = 1 then y0 else if 4 + m = 2 then x1 else if 4 + m = 3 then y1 else if 4 + m < 32 then k0.getD (4 + m - 4) 0 else if 4 + m = 32 then c0 else c1) = _
              rw [if_neg (by omega), if_neg (by omega), if_neg (by omega), if_neg (by omega), if_pos (by omega), show 4 + m - 4 = m by omega]
            refine calls_briefR (F := fixN 35 2 dec16k []) (tabZ_ok xt1_ok) run16k Try.func16 Try.ntmps16 rfl (by decide +kernel) (by decide +kernel) (by decide +kernel) (show 3 ≤ 35 by decide) (show 3 < 4095 by decide) S0 (fun r => if r = 0 then (b0, o0) else (b1, o1))
              (vals := [_, _, arrV k0]) (fun s hs => ⟨⟨by rw [hs 32 (by decide)]; rfl, by rw [hs 32 (by decide)]; exact hc0, show 0 < 2 by decide⟩, ⟨by rw [hs 33 (by decide)]; rfl, by rw [hs 33 (by decide)]; exact hc1, show 1 < 2 by decide⟩, agg_rep hk0 (ak0 s hs), trivial⟩) (fun s hs => ⟨show 0 < 2 by decide, ptRow_row rfl hp0 (hs 0 (by decide)) (hs 1 (by decide)) lx0 ly0, show 1 < 2 by decide, ptRow_row rfl hp1 (hs 2 (by decide)) (hs 3 (by decide)) lx1 ly1, trivial⟩) (fun r l hl hr => by cases hr) (fun r _ => (by show (if r = 0 then (b0, o0) else (b1, o1)).1 < _; split; exact lt0; exact lt1)) (fun r q _ _ h => by cases h) ?_ ?_
            · intro s hs hH i bb hb
              obtain ⟨q34, q35, q36, q37, q38, q39, q40, q43, q45, q48, q50, q51, q53, q56, q57, q58, q59⟩ := law16k (c0 := c0) (c1 := c1) (K0 := ofBytes k0) (x0 := x0) (y0 := y0) (x1 := x1) (y1 := y1) lx0 ly0 hon0 lx1 ly1 hon1 lX1 lY1 on1 lX4 lY4 on4 f1 gx1 gy1 f4 gx4 gy4 f2 f3 gx3 gy3 (hs 0 (by decide)) (hs 1 (by decide)) (hs 2 (by decide)) (hs 3 (by decide)) (hs 32 (by decide)) (hs 33 (by decide)) (kb_of hk0 (ak0 s hs)) hH
              have := findT_mem (show findT i dec16k = some bb from hb)
              simp only [dec16k, List.mem_cons, List.not_mem_nil, or_false, Prod.mk.injEq] at this
              rcases this with ⟨rfl, rfl⟩ | ⟨rfl, rfl⟩ | ⟨rfl, rfl⟩ | ⟨rfl, rfl⟩ | ⟨rfl, rfl⟩ | ⟨rfl, rfl⟩ | ⟨rfl, rfl⟩ | ⟨rfl, rfl⟩ | ⟨rfl, rfl⟩ | ⟨rfl, rfl⟩ | ⟨rfl, rfl⟩ | ⟨rfl, rfl⟩ | ⟨rfl, rfl⟩ | ⟨rfl, rfl⟩ | ⟨rfl, rfl⟩ | ⟨rfl, rfl⟩ | ⟨rfl, rfl⟩ <;> assumption
            · intro s hs hH st' β' a' w' v hv hm hag hr hbe
              have hv' : v = .bool true := hv
              exact ⟨by rw [hv'], hbe⟩
          · rcases mul_cases hon1 (ofBytes k0) with ⟨f3, e3⟩ | ⟨X3, Y3, f3, gx3, gy3, lX3, lY3, on3, e3⟩
            · obtain ⟨f2, gx2, gy2⟩ := is_pt (p := mulN x0 y0 (ofBytes k0)) (by rw [e3, padd_far_r] at spread; exact spread.symm) lX4 lY4
              let S0 : Nums := fun i => if i = 0 then x0 else if i = 1 then y0 else if i = 2 then x1 else if i = 3 then y1 else if i < 32 then k0.getD (i - 4) 0 else if i = 32 then c0 else c1
              have ak0 : ∀ s : Nums, (∀ i, i < 34 → s i = S0 i) → ∀ m, m < 28 → s (4 + m) = k0.getD m 0 := fun s hs m hm => by
                rw [hs (4 + m) (by omega)]
                show (if 4 + m = 0 then x0 else if 4 + m = 1 then y0 else if 4 + m = 2 then x1 else if 4 + m = 3 then y1 else if 4 + m < 32 then k0.getD (4 + m - 4) 0 else if 4 + m = 32 then c0 else c1) = _
                rw [if_neg (by omega), if_neg (by omega), if_neg (by omega), if_neg (by omega), if_pos (by omega), show 4 + m - 4 = m by omega]
              refine calls_briefR (F := fixN 35 2 dec16l []) (tabZ_ok xt1_ok) run16l Try.func16 Try.ntmps16 rfl (by decide +kernel) (by decide +kernel) (by decide +kernel) (show 3 ≤ 35 by decide) (show 3 < 4095 by decide) S0 (fun r => if r = 0 then (b0, o0) else (b1, o1))
                (vals := [_, _, arrV k0]) (fun s hs => ⟨⟨by rw [hs 32 (by decide)]; rfl, by rw [hs 32 (by decide)]; exact hc0, show 0 < 2 by decide⟩, ⟨by rw [hs 33 (by decide)]; rfl, by rw [hs 33 (by decide)]; exact hc1, show 1 < 2 by decide⟩, agg_rep hk0 (ak0 s hs), trivial⟩) (fun s hs => ⟨show 0 < 2 by decide, ptRow_row rfl hp0 (hs 0 (by decide)) (hs 1 (by decide)) lx0 ly0, show 1 < 2 by decide, ptRow_row rfl hp1 (hs 2 (by decide)) (hs 3 (by decide)) lx1 ly1, trivial⟩) (fun r l hl hr => by cases hr) (fun r _ => (by show (if r = 0 then (b0, o0) else (b1, o1)).1 < _; split; exact lt0; exact lt1)) (fun r q _ _ h => by cases h) ?_ ?_
              · intro s hs hH i bb hb
                obtain ⟨q34, q35, q36, q37, q38, q39, q40, q43, q45, q48, q50, q53, q55, q56, q57, q58, q59⟩ := law16l (c0 := c0) (c1 := c1) (K0 := ofBytes k0) (x0 := x0) (y0 := y0) (x1 := x1) (y1 := y1) lx0 ly0 hon0 lx1 ly1 hon1 lX1 lY1 on1 lX4 lY4 on4 f1 gx1 gy1 f4 gx4 gy4 f2 gx2 gy2 f3 (hs 0 (by decide)) (hs 1 (by decide)) (hs 2 (by decide)) (hs 3 (by decide)) (hs 32 (by decide)) (hs 33 (by decide)) (kb_of hk0 (ak0 s hs)) hH
                have := findT_mem (show findT i dec16l = some bb from hb)
                simp only [dec16l, List.mem_cons, List.not_mem_nil, or_false, Prod.mk.injEq] at this
                rcases this with ⟨rfl, rfl⟩ | ⟨rfl, rfl⟩ | ⟨rfl, rfl⟩ | ⟨rfl, rfl⟩ | ⟨rfl, rfl⟩ | ⟨rfl, rfl⟩ | ⟨rfl, rfl⟩ | ⟨rfl, rfl⟩ | ⟨rfl, rfl⟩ | ⟨rfl, rfl⟩ | ⟨rfl, rfl⟩ | ⟨rfl, rfl⟩ | ⟨rfl, rfl⟩ | ⟨rfl, rfl⟩ | ⟨rfl, rfl⟩ | ⟨rfl, rfl⟩ | ⟨rfl, rfl⟩ <;> assumption
              · intro s hs hH st' β' a' w' v hv hm hag hr hbe
                have hv' : v = .bool true := hv
                exact ⟨by rw [hv'], hbe⟩
            · obtain ⟨f5, gx5, gy5⟩ := is_pt (p := addN X2 Y2 X3 Y3) (by rw [e2, e3] at spread; exact spread.symm) lX4 lY4
              let S0 : Nums := fun i => if i = 0 then x0 else if i = 1 then y0 else if i = 2 then x1 else if i = 3 then y1 else if i < 32 then k0.getD (i - 4) 0 else if i = 32 then c0 else c1
              have ak0 : ∀ s : Nums, (∀ i, i < 34 → s i = S0 i) → ∀ m, m < 28 → s (4 + m) = k0.getD m 0 := fun s hs m hm => by
                rw [hs (4 + m) (by omega)]
                show (if 4 + m = 0 then x0 else if 4 + m = 1 then y0 else if 4 + m = 2 then x1 else if 4 + m = 3 then y1 else if 4 + m < 32 then k0.getD (4 + m - 4) 0 else if 4 + m = 32 then c0 else c1) = _
                rw [if_neg (by omega), if_neg (by omega), if_neg (by omega), if_neg (by omega), if_pos (by omega), show 4 + m - 4 = m by omega]
              refine calls_briefR (F := fixN 35 2 dec16m []) (tabZ_ok xt1_ok) run16m Try.func16 Try.ntmps16 rfl (by decide +kernel) (by decide +kernel) (by decide +kernel) (show 3 ≤ 35 by decide) (show 3 < 4095 by decide) S0 (fun r => if r = 0 then (b0, o0) else (b1, o1))
                (vals := [_, _, arrV k0]) (fun s hs => ⟨⟨by rw [hs 32 (by decide)]; rfl, by rw [hs 32 (by decide)]; exact hc0, show 0 < 2 by decide⟩, ⟨by rw [hs 33 (by decide)]; rfl, by rw [hs 33 (by decide)]; exact hc1, show 1 < 2 by decide⟩, agg_rep hk0 (ak0 s hs), trivial⟩) (fun s hs => ⟨show 0 < 2 by decide, ptRow_row rfl hp0 (hs 0 (by decide)) (hs 1 (by decide)) lx0 ly0, show 1 < 2 by decide, ptRow_row rfl hp1 (hs 2 (by decide)) (hs 3 (by decide)) lx1 ly1, trivial⟩) (fun r l hl hr => by cases hr) (fun r _ => (by show (if r = 0 then (b0, o0) else (b1, o1)).1 < _; split; exact lt0; exact lt1)) (fun r q _ _ h => by cases h) ?_ ?_
              · intro s hs hH i bb hb
                obtain ⟨q34, q35, q36, q37, q38, q39, q40, q43, q45, q48, q50, q53, q55, q58, q59, q60, q63, q64, q65⟩ := law16m (c0 := c0) (c1 := c1) (K0 := ofBytes k0) (x0 := x0) (y0 := y0) (x1 := x1) (y1 := y1) lx0 ly0 hon0 lx1 ly1 hon1 lX1 lY1 on1 lX4 lY4 on4 lX2 lY2 on2 lX3 lY3 on3 f1 gx1 gy1 f4 gx4 gy4 f2 gx2 gy2 f3 gx3 gy3 f5 gx5 gy5 (hs 0 (by decide)) (hs 1 (by decide)) (hs 2 (by decide)) (hs 3 (by decide)) (hs 32 (by decide)) (hs 33 (by decide)) (kb_of hk0 (ak0 s hs)) hH
                have := findT_mem (show findT i dec16m = some bb from hb)
                simp only [dec16m, List.mem_cons, List.not_mem_nil, or_false, Prod.mk.injEq] at this
                rcases this with ⟨rfl, rfl⟩ | ⟨rfl, rfl⟩ | ⟨rfl, rfl⟩ | ⟨rfl, rfl⟩ | ⟨rfl, rfl⟩ | ⟨rfl, rfl⟩ | ⟨rfl, rfl⟩ | ⟨rfl, rfl⟩ | ⟨rfl, rfl⟩ | ⟨rfl, rfl⟩ | ⟨rfl, rfl⟩ | ⟨rfl, rfl⟩ | ⟨rfl, rfl⟩ | ⟨rfl, rfl⟩ | ⟨rfl, rfl⟩ | ⟨rfl, rfl⟩ | ⟨rfl, rfl⟩ | ⟨rfl, rfl⟩ | ⟨rfl, rfl⟩ <;> assumption
              · intro s hs hH st' β' a' w' v hv hm hag hr hbe
                have hv' : v = .bool true := hv
                exact ⟨by rw [hv'], hbe⟩
theorem law16_all {w : World} {v v' : Value} {b o n u d f b' o' n' u' d' f' : Nat} (h : Sl w v b o n u d f) (h' : Sl w v' b' o' n' u' d' f') {k0 : List Nat} (hk0 : Is28 k0) : Law 16 w [v, v', arrV k0] := by
  by_cases hb : 2147483647 < n ∨ 2147483647 < n' ∨ f = 0 ∨ f' = 0
  · exact law_two_a (tabZ_ok xt1_ok) run16b1 run16b2 run16b3 run16b4 Try.func16 Try.ntmps16 (by decide) h h' hk0 hb
  · have hf : f = 1 := by have := h.flag.le; omega
    have hf' : f' = 1 := by have := h'.flag.le; omega
    subst hf
    subst hf'
    exact law16_good h.point h'.point hk0
end P224
