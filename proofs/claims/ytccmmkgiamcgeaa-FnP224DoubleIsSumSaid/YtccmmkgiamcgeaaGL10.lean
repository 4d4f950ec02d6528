/- Law DoubleIsSum. PRINTED BY A PROGRAM OF MY OWN (gen/mkL10.py). -/
import Derived.Test.YtccmmkgiamcgeaaGQ6
set_option linter.all false
namespace P224
open Go Go.RowKit Go.Proofs
set_option maxRecDepth 100000
set_option linter.unusedVariables false
theorem run10b1 : briefR (tabZ xw1) Try.f10 [] (runF (tabZ xw1) (fixN 25 1 [(4, true)] [(0, (0, 3))]) 3000 Try.f10 (startSt [.one (.sy 0 0)] [] 4 1)) = some ⟨.ret, 5, [.op 3 [.c 2147483647, .v 0]], [], [.one (.lit (.bool true))], []⟩ := by kernel_rfl
theorem run10b2 : briefR (tabZ xw1) Try.f10 [] (runF (tabZ xw1) (fixN 25 1 [(4, false), (3, false), (5, true)] [(0, (0, 3))]) 3000 Try.f10 (startSt [.one (.sy 0 0)] [] 4 1)) = some ⟨.ret, 6, [.feq (.v 3) (.c 0), .op 3 [.c 2147483647, .v 0]], [], [.one (.lit (.bool true))], []⟩ := by kernel_rfl
def ex10p : List Ex := [
.feq (.v 15) (.c 0),
.op 20 [(.v 7), (.v 8)],
.op 19 ((Wd.c 4 :: (bs28 7 ++ bs28 8)) ++ (Wd.c 4 :: (bs28 12 ++ bs28 13))),
.op 23 [(.v 0), (.v 1), (.v 0), (.v 1)],
.op 22 [(.v 0), (.v 1), (.v 0), (.v 1)],
.op 21 [(.v 0), (.v 1), (.v 0), (.v 1)],
.op 20 [(.v 0), (.v 1)],
.op 20 [(.v 0), (.v 1)],
.op 23 [(.v 0), (.v 1), (.v 0), (.v 1)],
.op 22 [(.v 0), (.v 1), (.v 0), (.v 1)],
.op 21 [(.v 0), (.v 1), (.v 0), (.v 1)],
.op 20 [(.v 0), (.v 1)],
.feq (.v 3) (.c 0),
.op 20 [(.v 0), (.v 1)]]
def dec10p : List (Nat × Bool) := [(3, true), (4, false), (5, true), (6, false), (9, true), (10, true), (11, false), (14, true), (15, true), (16, false)]
def st10p : St := startSt [.one (.sv 0 0 57 2)] [(0, ptRow 0 1)] 3 1
def br10p : BriefR := ⟨.ret, 17, ex10p, [], [.one (.lit (.bool true))], []⟩
theorem run10p : briefR (tabZ xw1) Try.f10 [] (runF (tabZ xw1) (fixN 25 1 dec10p []) 3000 Try.f10 st10p) = some br10p := by kernel_rfl
theorem law10p {s : Nums}  {c0 : Nat} {x0 y0 : Nat} (lx0 : x0 < pq) (ly0 : y0 < pq) (hon0 : onN x0 y0 = 1) (q0 : s 0 = x0) (q1 : s 1 = y0) (q2 : s 2 = c0) (h : Holds s 17 ex10p) : s 3 = 1 ∧ s 4 = 0 ∧ s 5 = 1 ∧ s 6 = 0 ∧ s 9 = 1 ∧ s 10 = 1 ∧ s 11 = 0 ∧ s 14 = 1 ∧ s 15 = 1 ∧ s 16 = 0 := by
  obtain ⟨h16, h15, h14, h13, h12, h11, h10, h9, h8, h7, h6, h5, h4, h3, _⟩ := h
  have q3 : s 3 = 1 := ((show s 3 = onN (s 0) (s 1) from h3).trans (by rw [q0, q1])).trans hon0
  have q4 : s 4 = 0 := (show s 4 = if s 3 = 0 then 1 else 0 from h4).trans (if_neg (by rw [q3]; decide))
  have q5 : s 5 = 1 := ((show s 5 = onN (s 0) (s 1) from h5).trans (by rw [q0, q1])).trans hon0
  have q6 : s 6 = 0 := ((show s 6 = farOf (addN (s 0) (s 1) (s 0) (s 1)) from h6).trans (by rw [q0, q1])).trans (dbl_farOf ly0 hon0)
  have q7 : s 7 = xOf (addN x0 y0 x0 y0) := (show s 7 = xOf (addN (s 0) (s 1) (s 0) (s 1)) from h7).trans (by rw [q0, q1])
  have q8 : s 8 = yOf (addN x0 y0 x0 y0) := (show s 8 = yOf (addN (s 0) (s 1) (s 0) (s 1)) from h8).trans (by rw [q0, q1])
  have q9 : s 9 = 1 := ((show s 9 = onN (s 0) (s 1) from h9).trans (by rw [q0, q1])).trans hon0
  have q10 : s 10 = 1 := ((show s 10 = onN (s 0) (s 1) from h10).trans (by rw [q0, q1])).trans hon0
  have q11 : s 11 = 0 := ((show s 11 = farOf (addN (s 0) (s 1) (s 0) (s 1)) from h11).trans (by rw [q0, q1])).trans (dbl_farOf ly0 hon0)
  have q12 : s 12 = xOf (addN x0 y0 x0 y0) := (show s 12 = xOf (addN (s 0) (s 1) (s 0) (s 1)) from h12).trans (by rw [q0, q1])
  have q13 : s 13 = yOf (addN x0 y0 x0 y0) := (show s 13 = yOf (addN (s 0) (s 1) (s 0) (s 1)) from h13).trans (by rw [q0, q1])
  have q14 : s 14 = 1 := same_pts h14 (by rw [q7, q12]) (by rw [q8, q13])
  have q15 : s 15 = 1 := ((show s 15 = onN (s 7) (s 8) from h15).trans (by rw [q7, q8])).trans (on_add hon0 hon0 (dbl_farOf ly0 hon0))
  have q16 : s 16 = 0 := (show s 16 = if s 15 = 0 then 1 else 0 from h16).trans (if_neg (by rw [q15]; decide))
  exact ⟨q3, q4, q5, q6, q9, q10, q11, q14, q15, q16⟩
def ex10f : List Ex := [
.op 19 [.c 0, .c 0]]
def dec10f : List (Nat × Bool) := [(1, true)]
def st10f : St := startSt [.one (.sv 0 0 1 0)] [(0, [.lit (.int .u8 0)])] 1 1
def br10f : BriefR := ⟨.ret, 2, ex10f, [], [.one (.lit (.bool true))], []⟩
theorem run10f : briefR (tabZ xw1) Try.f10 [] (runF (tabZ xw1) (fixN 25 1 dec10f []) 3000 Try.f10 st10f) = some br10f := by kernel_rfl
theorem law10f {s : Nums}  {c0 : Nat} (q0 : s 0 = c0) (h : Holds s 2 ex10f) : s 1 = 1 := by
  obtain ⟨h1, _⟩ := h
  have q1 : s 1 = 1 := (show s 1 = opVal 19 ([0] ++ [0]) from h1).trans (opVal_19 [0] [0] rfl)
  exact q1
theorem law10_good {w : World} {v : Value} (h1 : PtOf w v) : Law 10 w [v] := by
  rcases h1 with ⟨b0, o0, c0, rfl, hc0, hp0⟩ | ⟨b0, o0, c0, x0, y0, rfl, hc0, hp0, lx0, ly0, hon0⟩
  · have lt0 : b0 < w.heap.size := World.block_lt_of_cell? w _ hp0
    refine calls_briefR (F := fixN 25 1 dec10f []) (tabZ_ok xw1_ok) run10f Try.func10 Try.ntmps10 rfl (by decide +kernel) (by decide +kernel) (by decide +kernel) (show 1 ≤ 25 by decide) (show 1 < 4095 by decide) (fun i =>  c0) (fun r =>  (b0, o0))
      (vals := [_]) (fun s hs => ⟨⟨by rw [hs 0 (by decide)]; rfl, by rw [hs 0 (by decide)]; exact hc0, show 0 < 1 by decide⟩, trivial⟩) (fun s hs => ⟨show 0 < 1 by decide, ⟨⟨_, hp0, rfl⟩, trivial⟩, trivial⟩) (fun r l hl hr => by cases hr) (fun r _ => lt0) (fun r q _ _ h => by cases h) ?_ ?_
    · intro s hs hH i bb hb
      have q1 := law10f (c0 := c0)  (hs 0 (by decide)) hH
      have := findT_mem (show findT i dec10f = some bb from hb)
      simp only [dec10f, List.mem_cons, List.not_mem_nil, or_false, Prod.mk.injEq] at this
      obtain ⟨rfl, rfl⟩ := this
      assumption
    · intro s hs hH st' β' a' w' v hv hm hag hr hbe
      have hv' : v = .bool true := hv
      exact ⟨by rw [hv'], hbe⟩
  · have lt0 : b0 < w.heap.size := World.block_lt_of_cell? w _ (hp0 0 4 rfl)
    refine calls_briefR (F := fixN 25 1 dec10p []) (tabZ_ok xw1_ok) run10p Try.func10 Try.ntmps10 rfl (by decide +kernel) (by decide +kernel) (by decide +kernel) (show 1 ≤ 25 by decide) (show 1 < 4095 by decide) (fun i => if i = 0 then x0 else if i = 1 then y0 else c0) (fun r =>  (b0, o0))
      (vals := [_]) (fun s hs => ⟨⟨by rw [hs 2 (by decide)]; rfl, by rw [hs 2 (by decide)]; exact hc0, show 0 < 1 by decide⟩, trivial⟩) (fun s hs => ⟨show 0 < 1 by decide, ptRow_row rfl hp0 (hs 0 (by decide)) (hs 1 (by decide)) lx0 ly0, trivial⟩) (fun r l hl hr => by cases hr) (fun r _ => lt0) (fun r q _ _ h => by cases h) ?_ ?_
    · intro s hs hH i bb hb
      obtain ⟨q3, q4, q5, q6, q9, q10, q11, q14, q15, q16⟩ := law10p (c0 := c0) (x0 := x0) (y0 := y0) lx0 ly0 hon0 (hs 0 (by decide)) (hs 1 (by decide)) (hs 2 (by decide)) hH
      have := findT_mem (show findT i dec10p = some bb from hb)
      simp only [dec10p, List.mem_cons, List.not_mem_nil, or_false, Prod.mk.injEq] at this
      rcases this with ⟨rfl, rfl⟩ | ⟨rfl, rfl⟩ | ⟨rfl, rfl⟩ | ⟨rfl, rfl⟩ | ⟨rfl, rfl⟩ | ⟨rfl, rfl⟩ | ⟨rfl, rfl⟩ | ⟨rfl, rfl⟩ | ⟨rfl, rfl⟩ | ⟨rfl, rfl⟩ <;> assumption
    · intro s hs hH st' β' a' w' v hv hm hag hr hbe
      have hv' : v = .bool true := hv
      exact ⟨by rw [hv'], hbe⟩
theorem law10_all {w : World} {v : Value} {b o n u d f : Nat} (h : Sl w v b o n u d f) : Law 10 w [v] := by
  by_cases hb : 2147483647 < n ∨ f = 0
  · exact law_one xw1_ok run10b1 run10b2 Try.func10 Try.ntmps10 (by decide) h hb
  · have hf : f = 1 := by have := h.flag.le; omega
    subst hf
    exact law10_good h.point
end P224
