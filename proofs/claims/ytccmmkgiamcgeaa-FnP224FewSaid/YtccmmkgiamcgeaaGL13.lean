/- Law Few. PRINTED BY A PROGRAM OF MY OWN (gen/mkL13.py). -/
import Derived.Test.YtccmmkgiamcgeaaGV13
set_option linter.all false
namespace P224
open Go Go.RowKit Go.Proofs
set_option maxRecDepth 100000
set_option linter.unusedVariables false
theorem run13b1 : briefR (tabZ xt1) Try.f13 [] (runF (tabZ xt1) (fixN 39 1 [(4, true)] [(0, (0, 3))]) 3000 Try.f13 (startSt (.one (.sy 0 0) :: []) [] 4 1)) = some ⟨.ret, 5, [lenE 0], [], [.one (.lit (.bool true))], []⟩ := by kernel_rfl
theorem run13b2 : briefR (tabZ xt1) Try.f13 [] (runF (tabZ xt1) (fixN 39 1 [(4, false), (3, false), (5, true)] [(0, (0, 3))]) 3000 Try.f13 (startSt (.one (.sy 0 0) :: []) [] 4 1)) = some ⟨.ret, 6, [.feq (.v 3) (.c 0), lenE 0], [], [.one (.lit (.bool true))], []⟩ := by kernel_rfl
def ex13f : List Ex := [
.op 19 [.c 0, .c 0],
.op 2 (List.replicate 27 (.c 0) ++ [.c 2]),
.op 19 [.c 0, .c 0],
.op 2 (List.replicate 27 (.c 0) ++ [.c 1]),
.op 19 [.c 0, .c 0],
.op 2 (List.replicate 27 (.c 0) ++ [.c 0])]
def dec13f : List (Nat × Bool) := [(2, true), (4, true), (6, true)]
def st13f : St := startSt [.one (.sv 0 0 1 0)] [(0, [.lit (.int .u8 0)])] 1 1
def br13f : BriefR := ⟨.ret, 7, ex13f, [], [.one (.lit (.bool true))], []⟩
theorem run13f : briefR (tabZ xt1) Try.f13 [] (runF (tabZ xt1) (fixN 39 1 dec13f []) 3000 Try.f13 st13f) = some br13f := by kernel_rfl
theorem law13f {s : Nums}  {c0 : Nat} (q0 : s 0 = c0)  (h : Holds s 7 ex13f) : s 2 = 1 ∧ s 4 = 1 ∧ s 6 = 1 := by
  obtain ⟨h6, h5, h4, h3, h2, h1, _⟩ := h
  have q1 : s 1 = 0 := (show s 1 = ofBytes (List.replicate 27 0 ++ [0]) from h1).trans (by decide +kernel)
  have q2 : s 2 = 1 := (show s 2 = opVal 19 ([0] ++ [0]) from h2).trans (opVal_19 [0] [0] rfl)
  have q3 : s 3 = 1 := (show s 3 = ofBytes (List.replicate 27 0 ++ [1]) from h3).trans (by decide +kernel)
  have q4 : s 4 = 1 := (show s 4 = opVal 19 ([0] ++ [0]) from h4).trans (opVal_19 [0] [0] rfl)
  have q5 : s 5 = 2 := (show s 5 = ofBytes (List.replicate 27 0 ++ [2]) from h5).trans (by decide +kernel)
  have q6 : s 6 = 1 := (show s 6 = opVal 19 ([0] ++ [0]) from h6).trans (opVal_19 [0] [0] rfl)
  exact ⟨q2, q4, q6⟩
def ex13p : List Ex := [
.feq (.v 25) (.c 0),
.op 20 [(.v 22), (.v 23)],
.op 19 ((Wd.c 4 :: (bs28 22 ++ bs28 23)) ++ (Wd.c 4 :: (bs28 7 ++ bs28 8))),
.op 27 [(.v 0), (.v 1), (.v 20)],
.op 26 [(.v 0), (.v 1), (.v 20)],
.op 25 [(.v 0), (.v 1), (.v 20)],
.op 2 (List.replicate 27 (.c 0) ++ [.c 2]),
.op 20 [(.v 0), (.v 1)],
.op 19 ((Wd.c 4 :: (bs28 16 ++ bs28 17)) ++ (Wd.c 4 :: (bs28 0 ++ bs28 1))),
.op 27 [(.v 0), (.v 1), (.v 14)],
.op 26 [(.v 0), (.v 1), (.v 14)],
.op 25 [(.v 0), (.v 1), (.v 14)],
.op 2 (List.replicate 27 (.c 0) ++ [.c 1]),
.op 20 [(.v 0), (.v 1)],
.op 19 [.c 0, .c 0],
.op 25 [(.v 0), (.v 1), (.v 10)],
.op 2 (List.replicate 27 (.c 0) ++ [.c 0]),
.op 20 [(.v 0), (.v 1)],
.op 23 [(.v 0), (.v 1), (.v 0), (.v 1)],
.op 22 [(.v 0), (.v 1), (.v 0), (.v 1)],
.op 21 [(.v 0), (.v 1), (.v 0), (.v 1)],
.op 20 [(.v 0), (.v 1)],
.feq (.v 3) (.c 0),
.op 20 [(.v 0), (.v 1)]]
def dec13p : List (Nat × Bool) := [(3, true), (4, false), (5, true), (6, false), (9, true), (11, true), (12, true), (13, true), (15, false), (18, true), (19, true), (21, false), (24, true), (25, true), (26, false)]
def st13p : St := startSt [.one (.sv 0 0 57 2)] [(0, ptRow 0 1)] 3 1
def br13p : BriefR := ⟨.ret, 27, ex13p, [], [.one (.lit (.bool true))], []⟩
theorem run13p : briefR (tabZ xt1) Try.f13 [] (runF (tabZ xt1) (fixN 39 1 dec13p []) 3000 Try.f13 st13p) = some br13p := by kernel_rfl
theorem law13p {s : Nums}  {c0 : Nat} {x0 y0 : Nat} (lx0 : x0 < pq) (ly0 : y0 < pq) (hon0 : onN x0 y0 = 1) {X2 Y2 : Nat} (lX2 : X2 < pq) (lY2 : Y2 < pq) (on2 : onN X2 Y2 = 1) (f0 : farOf (mulN x0 y0 0) = 1) (f1 : farOf (mulN x0 y0 1) = 0) (gx1 : xOf (mulN x0 y0 1) = x0) (gy1 : yOf (mulN x0 y0 1) = y0) (f2 : farOf (addN x0 y0 x0 y0) = 0) (gx2 : xOf (addN x0 y0 x0 y0) = X2) (gy2 : yOf (addN x0 y0 x0 y0) = Y2) (f3 : farOf (mulN x0 y0 2) = 0) (gx3 : xOf (mulN x0 y0 2) = X2) (gy3 : yOf (mulN x0 y0 2) = Y2) (q0 : s 0 = x0) (q1 : s 1 = y0) (q2 : s 2 = c0)  (h : Holds s 27 ex13p) : s 3 = 1 ∧ s 4 = 0 ∧ s 5 = 1 ∧ s 6 = 0 ∧ s 9 = 1 ∧ s 11 = 1 ∧ s 12 = 1 ∧ s 13 = 1 ∧ s 15 = 0 ∧ s 18 = 1 ∧ s 19 = 1 ∧ s 21 = 0 ∧ s 24 = 1 ∧ s 25 = 1 ∧ s 26 = 0 := by
  obtain ⟨h26, h25, h24, h23, h22, h21, h20, h19, h18, h17, h16, h15, h14, h13, h12, h11, h10, h9, h8, h7, h6, h5, h4, h3, _⟩ := h
  have q3 : s 3 = 1 := ((show s 3 = onN (s 0) (s 1) from h3).trans (by rw [q0, q1])).trans hon0
  have q4 : s 4 = 0 := (show s 4 = if s 3 = 0 then 1 else 0 from h4).trans (if_neg (by rw [q3]; decide))
  have q5 : s 5 = 1 := ((show s 5 = onN (s 0) (s 1) from h5).trans (by rw [q0, q1])).trans hon0
  have q6 : s 6 = 0 := ((show s 6 = farOf (addN (s 0) (s 1) (s 0) (s 1)) from h6).trans (by rw [q0, q1])).trans f2
  have q7 : s 7 = X2 := ((show s 7 = xOf (addN (s 0) (s 1) (s 0) (s 1)) from h7).trans (by rw [q0, q1])).trans gx2
  have q8 : s 8 = Y2 := ((show s 8 = yOf (addN (s 0) (s 1) (s 0) (s 1)) from h8).trans (by rw [q0, q1])).trans gy2
  have q9 : s 9 = 1 := ((show s 9 = onN (s 0) (s 1) from h9).trans (by rw [q0, q1])).trans hon0
  have q10 : s 10 = 0 := (show s 10 = ofBytes (List.replicate 27 0 ++ [0]) from h10).trans (by decide +kernel)
  have q11 : s 11 = 1 := ((show s 11 = farOf (mulN (s 0) (s 1) (s 10)) from h11).trans (by rw [q0, q1, q10])).trans f0
  have q12 : s 12 = 1 := (show s 12 = opVal 19 ([0] ++ [0]) from h12).trans (opVal_19 [0] [0] rfl)
  have q13 : s 13 = 1 := ((show s 13 = onN (s 0) (s 1) from h13).trans (by rw [q0, q1])).trans hon0
  have q14 : s 14 = 1 := (show s 14 = ofBytes (List.replicate 27 0 ++ [1]) from h14).trans (by decide +kernel)
  have q15 : s 15 = 0 := ((show s 15 = farOf (mulN (s 0) (s 1) (s 14)) from h15).trans (by rw [q0, q1, q14])).trans f1
  have q16 : s 16 = x0 := ((show s 16 = xOf (mulN (s 0) (s 1) (s 14)) from h16).trans (by rw [q0, q1, q14])).trans gx1
  have q17 : s 17 = y0 := ((show s 17 = yOf (mulN (s 0) (s 1) (s 14)) from h17).trans (by rw [q0, q1, q14])).trans gy1
  have q18 : s 18 = 1 := same_pts h18 (by rw [q16, q0]) (by rw [q17, q1])
  have q19 : s 19 = 1 := ((show s 19 = onN (s 0) (s 1) from h19).trans (by rw [q0, q1])).trans hon0
  have q20 : s 20 = 2 := (show s 20 = ofBytes (List.replicate 27 0 ++ [2]) from h20).trans (by decide +kernel)
  have q21 : s 21 = 0 := ((show s 21 = farOf (mulN (s 0) (s 1) (s 20)) from h21).trans (by rw [q0, q1, q20])).trans f3
  have q22 : s 22 = X2 := ((show s 22 = xOf (mulN (s 0) (s 1) (s 20)) from h22).trans (by rw [q0, q1, q20])).trans gx3
  have q23 : s 23 = Y2 := ((show s 23 = yOf (mulN (s 0) (s 1) (s 20)) from h23).trans (by rw [q0, q1, q20])).trans gy3
  have q24 : s 24 = 1 := same_pts h24 (by rw [q22, q7]) (by rw [q23, q8])
  have q25 : s 25 = 1 := ((show s 25 = onN (s 22) (s 23) from h25).trans (by rw [q22, q23])).trans on2
  have q26 : s 26 = 0 := (show s 26 = if s 25 = 0 then 1 else 0 from h26).trans (if_neg (by rw [q25]; decide))
  exact ⟨q3, q4, q5, q6, q9, q11, q12, q13, q15, q18, q19, q21, q24, q25, q26⟩
theorem law13_good {w : World} {v : Value} (h1 : PtOf w v) : Law 13 w [v] := by
  rcases h1 with ⟨b0, o0, c0, rfl, hc0, hp0⟩ | ⟨b0, o0, c0, x0, y0, rfl, hc0, hp0, lx0, ly0, hon0⟩
  · have lt0 : b0 < w.heap.size := World.block_lt_of_cell? w _ hp0
    let S0 : Nums := fun i =>    c0
    refine calls_briefR (F := fixN 39 1 dec13f []) (tabZ_ok xt1_ok) run13f Try.func13 Try.ntmps13 rfl (by decide +kernel) (by decide +kernel) (by decide +kernel) (show 1 ≤ 39 by decide) (show 1 < 4095 by decide) S0 (fun r =>  (b0, o0))
      (vals := [_]) (fun s hs => ⟨⟨by rw [hs 0 (by decide)]; rfl, by rw [hs 0 (by decide)]; exact hc0, show 0 < 1 by decide⟩, trivial⟩) (fun s hs => ⟨show 0 < 1 by decide, ⟨⟨_, hp0, rfl⟩, trivial⟩, trivial⟩) (fun r l hl hr => by cases hr) (fun r _ => lt0) (fun r q _ _ h => by cases h) ?_ ?_
    · intro s hs hH i bb hb
      obtain ⟨q2, q4, q6⟩ := law13f (c0 := c0)   (hs 0 (by decide)) hH
      have := findT_mem (show findT i dec13f = some bb from hb)
      simp only [dec13f, List.mem_cons, List.not_mem_nil, or_false, Prod.mk.injEq] at this
      rcases this with ⟨rfl, rfl⟩ | ⟨rfl, rfl⟩ | ⟨rfl, rfl⟩ <;> assumption
    · intro s hs hH st' β' a' w' v hv hm hag hr hbe
      have hv' : v = .bool true := hv
      exact ⟨by rw [hv'], hbe⟩
  · have lt0 : b0 < w.heap.size := World.block_lt_of_cell? w _ (hp0 0 4 rfl)
    have f0 : farOf (mulN x0 y0 0) = 1 := is_far (nsmul_zero _)
    obtain ⟨f1, gx1, gy1⟩ := is_pt (p := mulN x0 y0 1) (nsmul_one _) lx0 ly0
    rcases add_cases hon0 hon0 with ⟨f2, e2⟩ | ⟨X2, Y2, f2, gx2, gy2, lX2, lY2, on2, e2⟩
    · exact absurd e2 (dbl_far ly0 hon0)
    · have e3 : mulN x0 y0 2 = ptN X2 Y2 := by
        rw [← e2]
        have := nsmul_two fine (onN_on hon0) 1
        rw [nsmul_one] at this
        exact this
      obtain ⟨f3, gx3, gy3⟩ := is_pt e3 lX2 lY2
      let S0 : Nums := fun i => if i = 0 then x0 else if i = 1 then y0 else   c0
      refine calls_briefR (F := fixN 39 1 dec13p []) (tabZ_ok xt1_ok) run13p Try.func13 Try.ntmps13 rfl (by decide +kernel) (by decide +kernel) (by decide +kernel) (show 1 ≤ 39 by decide) (show 1 < 4095 by decide) S0 (fun r =>  (b0, o0))
        (vals := [_]) (fun s hs => ⟨⟨by rw [hs 2 (by decide)]; rfl, by rw [hs 2 (by decide)]; exact hc0, show 0 < 1 by decide⟩, trivial⟩) (fun s hs => ⟨show 0 < 1 by decide, ptRow_row rfl hp0 (hs 0 (by decide)) (hs 1 (by decide)) lx0 ly0, trivial⟩) (fun r l hl hr => by cases hr) (fun r _ => lt0) (fun r q _ _ h => by cases h) ?_ ?_
      · intro s hs hH i bb hb
        obtain ⟨q3, q4, q5, q6, q9, q11, q12, q13, q15, q18, q19, q21, q24, q25, q26⟩ := law13p (c0 := c0)  (x0 := x0) (y0 := y0) lx0 ly0 hon0 lX2 lY2 on2 f0 f1 gx1 gy1 f2 gx2 gy2 f3 gx3 gy3 (hs 0 (by decide)) (hs 1 (by decide)) (hs 2 (by decide)) hH
        have := findT_mem (show findT i dec13p = some bb from hb)
        simp only [dec13p, List.mem_cons, List.not_mem_nil, or_false, Prod.mk.injEq] at this
        rcases this with ⟨rfl, rfl⟩ | ⟨rfl, rfl⟩ | ⟨rfl, rfl⟩ | ⟨rfl, rfl⟩ | ⟨rfl, rfl⟩ | ⟨rfl, rfl⟩ | ⟨rfl, rfl⟩ | ⟨rfl, rfl⟩ | ⟨rfl, rfl⟩ | ⟨rfl, rfl⟩ | ⟨rfl, rfl⟩ | ⟨rfl, rfl⟩ | ⟨rfl, rfl⟩ | ⟨rfl, rfl⟩ | ⟨rfl, rfl⟩ <;> assumption
      · intro s hs hH st' β' a' w' v hv hm hag hr hbe
        have hv' : v = .bool true := hv
        exact ⟨by rw [hv'], hbe⟩
theorem law13_all {w : World} {v : Value} {b o n u d f : Nat} (h : Sl w v b o n u d f) : Law 13 w (v :: []) := by
  by_cases hb : 2147483647 < n ∨ f = 0
  · exact law_one_x (tabZ_ok xt1_ok) (n0 := 4) (vs := []) (by decide) (fun i =>  0) run13b1 run13b2 Try.func13 Try.ntmps13 (by decide +kernel) (by decide +kernel) (by decide) (by decide) (fun s β hs => trivial) h hb
  · have hf : f = 1 := by have := h.flag.le; omega
    subst hf
    exact law13_good h.point
end P224
