/- Law Order. PRINTED BY A PROGRAM OF MY OWN (gen/mkL11.py). -/
import Derived.Test.YtccmmkgiamcgeaaGY1
set_option linter.all false
namespace P224
open Go Go.RowKit Go.Proofs
set_option maxRecDepth 100000
set_option linter.unusedVariables false
theorem run11b1 : briefR (tabU xt1) Try.f11 [] (runF (tabU xt1) (fixN 52 1 [(4, true)] [(0, (0, 3))]) 3000 Try.f11 (startSt (.one (.sy 0 0) :: []) [] 4 1)) = some ⟨.ret, 5, [lenE 0], [], [.one (.lit (.bool true))], []⟩ := by kernel_rfl
theorem run11b2 : briefR (tabU xt1) Try.f11 [] (runF (tabU xt1) (fixN 52 1 [(4, false), (3, false), (5, true)] [(0, (0, 3))]) 3000 Try.f11 (startSt (.one (.sy 0 0) :: []) [] 4 1)) = some ⟨.ret, 6, [.feq (.v 3) (.c 0), lenE 0], [], [.one (.lit (.bool true))], []⟩ := by kernel_rfl
def ex11f : List Ex := [
.op 19 [.c 0, .c 0],
.op 2 (((List.range 27).map fun k => .b 3 (27 - k)) ++ [.v 5]),
.op 19 [.c 0, .c 0],
.op 2 ((List.range 28).map fun k => .b 1 (27 - k)),
.sub 8 (.b 3 0) (.c 1),
.op 4 [(.v 3), (.c pq)],
.fcst nn,
.op 4 [(.v 1), (.c pq)],
.fcst nn]
def dec11f : List (Nat × Bool) := [(2, true), (4, true), (7, true)]
def st11f : St := startSt [.one (.sv 0 0 1 0)] [(0, [.lit (.int .u8 0)])] 1 1
def br11f : BriefR := ⟨.ret, 10, ex11f, [], [.one (.bl 9)], []⟩
theorem run11f : briefR (tabU xt1) Try.f11 [] (runF (tabU xt1) (fixN 52 1 dec11f []) 3000 Try.f11 st11f) = some br11f := by kernel_rfl
theorem law11f {s : Nums}  {c0 : Nat} (q0 : s 0 = c0)  (h : Holds s 10 ex11f) : s 2 = 1 ∧ s 4 = 1 ∧ s 7 = 1 ∧ s 9 = 1 := by
  obtain ⟨h9, h8, h7, h6, h5, h4, h3, h2, h1, _⟩ := h
  have q1 : s 1 = nn := (show s 1 = nn % pq from h1).trans nn_mod
  have q2 : s 2 = 1 := (show s 2 = if s 1 < pq then 1 else 0 from h2).trans (if_pos (by rw [q1]; exact nn_pq))
  have q3 : s 3 = nn := (show s 3 = nn % pq from h3).trans nn_mod
  have q4 : s 4 = 1 := (show s 4 = if s 3 < pq then 1 else 0 from h4).trans (if_pos (by rw [q3]; exact nn_pq))
  have q5 : s 5 = 60 := (show s 5 = (by8 0 (s 3) + (2 ^ 8 - 1)) % 2 ^ 8 from h5).trans (by rw [q3]; exact nn_last)
  have q6 : s 6 = nn := (show s 6 = ofBytes ((List.range 28).map fun k => by8 (27 - k) (s 1)) from h6).trans (by rw [q1]; exact nn_bytes)
  have q7 : s 7 = 1 := (show s 7 = opVal 19 ([0] ++ [0]) from h7).trans (opVal_19 [0] [0] rfl)
  have q8 : s 8 = nn - 1 := (show s 8 = ofBytes (((List.range 27).map fun k => by8 (27 - k) (s 3)) ++ [s 5]) from h8).trans (by rw [q3, q5]; exact nn_less)
  have q9 : s 9 = 1 := (show s 9 = opVal 19 ([0] ++ [0]) from h9).trans (opVal_19 [0] [0] rfl)
  exact ⟨q2, q4, q7, q9⟩
def ex11p : List Ex := [
.op 19 ((Wd.c 4 :: (bs28 17 ++ bs28 18)) ++ (Wd.c 4 :: (bs28 0 ++ bs28 19))),
.op 4 [(.v 19), (.c pq)],
.op 4 [(.v 0), (.c pq)],
.op 14 [(.c 0), (.v 1)],
.op 27 [(.v 0), (.v 1), (.v 15)],
.op 26 [(.v 0), (.v 1), (.v 15)],
.op 25 [(.v 0), (.v 1), (.v 15)],
.op 2 (((List.range 27).map fun k => .b 7 (27 - k)) ++ [.v 9]),
.op 20 [(.v 0), (.v 1)],
.op 19 [.c 0, .c 0],
.op 25 [(.v 0), (.v 1), (.v 11)],
.op 2 ((List.range 28).map fun k => .b 5 (27 - k)),
.op 20 [(.v 0), (.v 1)],
.sub 8 (.b 7 0) (.c 1),
.op 4 [(.v 7), (.c pq)],
.fcst nn,
.op 4 [(.v 5), (.c pq)],
.fcst nn,
.feq (.v 3) (.c 0),
.op 20 [(.v 0), (.v 1)]]
def dec11p : List (Nat × Bool) := [(3, true), (4, false), (6, true), (8, true), (10, true), (12, true), (13, true), (14, true), (16, false), (20, true), (21, true)]
def st11p : St := startSt [.one (.sv 0 0 57 2)] [(0, ptRow 0 1)] 3 1
def br11p : BriefR := ⟨.ret, 23, ex11p, [], [.one (.bl 22)], []⟩
theorem run11p : briefR (tabU xt1) Try.f11 [] (runF (tabU xt1) (fixN 52 1 dec11p []) 3000 Try.f11 st11p) = some br11p := by kernel_rfl
theorem law11p {s : Nums}  {c0 : Nat} {x0 y0 : Nat} (lx0 : x0 < pq) (ly0 : y0 < pq) (hon0 : onN x0 y0 = 1) (f0 : farOf (mulN x0 y0 nn) = 1) (f1 : farOf (mulN x0 y0 (nn - 1)) = 0) (gx1 : xOf (mulN x0 y0 (nn - 1)) = x0) (gy1 : yOf (mulN x0 y0 (nn - 1)) = negM y0) (q0 : s 0 = x0) (q1 : s 1 = y0) (q2 : s 2 = c0)  (h : Holds s 23 ex11p) : s 3 = 1 ∧ s 4 = 0 ∧ s 6 = 1 ∧ s 8 = 1 ∧ s 10 = 1 ∧ s 12 = 1 ∧ s 13 = 1 ∧ s 14 = 1 ∧ s 16 = 0 ∧ s 20 = 1 ∧ s 21 = 1 ∧ s 22 = 1 := by
  obtain ⟨h22, h21, h20, h19, h18, h17, h16, h15, h14, h13, h12, h11, h10, h9, h8, h7, h6, h5, h4, h3, _⟩ := h
  have q3 : s 3 = 1 := ((show s 3 = onN (s 0) (s 1) from h3).trans (by rw [q0, q1])).trans hon0
  have q4 : s 4 = 0 := (show s 4 = if s 3 = 0 then 1 else 0 from h4).trans (if_neg (by rw [q3]; decide))
  have q5 : s 5 = nn := (show s 5 = nn % pq from h5).trans nn_mod
  have q6 : s 6 = 1 := (show s 6 = if s 5 < pq then 1 else 0 from h6).trans (if_pos (by rw [q5]; exact nn_pq))
  have q7 : s 7 = nn := (show s 7 = nn % pq from h7).trans nn_mod
  have q8 : s 8 = 1 := (show s 8 = if s 7 < pq then 1 else 0 from h8).trans (if_pos (by rw [q7]; exact nn_pq))
  have q9 : s 9 = 60 := (show s 9 = (by8 0 (s 7) + (2 ^ 8 - 1)) % 2 ^ 8 from h9).trans (by rw [q7]; exact nn_last)
  have q10 : s 10 = 1 := ((show s 10 = onN (s 0) (s 1) from h10).trans (by rw [q0, q1])).trans hon0
  have q11 : s 11 = nn := (show s 11 = ofBytes ((List.range 28).map fun k => by8 (27 - k) (s 5)) from h11).trans (by rw [q5]; exact nn_bytes)
  have q12 : s 12 = 1 := ((show s 12 = farOf (mulN (s 0) (s 1) (s 11)) from h12).trans (by rw [q0, q1, q11])).trans f0
  have q13 : s 13 = 1 := (show s 13 = opVal 19 ([0] ++ [0]) from h13).trans (opVal_19 [0] [0] rfl)
  have q14 : s 14 = 1 := ((show s 14 = onN (s 0) (s 1) from h14).trans (by rw [q0, q1])).trans hon0
  have q15 : s 15 = nn - 1 := (show s 15 = ofBytes (((List.range 27).map fun k => by8 (27 - k) (s 7)) ++ [s 9]) from h15).trans (by rw [q7, q9]; exact nn_less)
  have q16 : s 16 = 0 := ((show s 16 = farOf (mulN (s 0) (s 1) (s 15)) from h16).trans (by rw [q0, q1, q15])).trans f1
  have q17 : s 17 = x0 := ((show s 17 = xOf (mulN (s 0) (s 1) (s 15)) from h17).trans (by rw [q0, q1, q15])).trans gx1
  have q18 : s 18 = negM y0 := ((show s 18 = yOf (mulN (s 0) (s 1) (s 15)) from h18).trans (by rw [q0, q1, q15])).trans gy1
  have q19 : s 19 = negM y0 := (show s 19 = ((((0 : Nat) : Int) - ((s 1 : Nat) : Int)) % (pq : Int)).toNat from h19).trans (by rw [q1]; rfl)
  have q20 : s 20 = 1 := (show s 20 = if s 0 < pq then 1 else 0 from h20).trans (if_pos (by rw [q0]; exact lx0))
  have q21 : s 21 = 1 := (show s 21 = if s 19 < pq then 1 else 0 from h21).trans (if_pos (by rw [q19]; exact negM_lt _))
  have q22 : s 22 = 1 := same_pts h22 (by rw [q17, q0]) (by rw [q18, q19])
  exact ⟨q3, q4, q6, q8, q10, q12, q13, q14, q16, q20, q21, q22⟩
theorem law11_good {w : World} {v : Value} (h1 : PtOf w v) : Law 11 w [v] := by
  rcases h1 with ⟨b0, o0, c0, rfl, hc0, hp0⟩ | ⟨b0, o0, c0, x0, y0, rfl, hc0, hp0, lx0, ly0, hon0⟩
  · have lt0 : b0 < w.heap.size := World.block_lt_of_cell? w _ hp0
    let S0 : Nums := fun i =>    c0
    refine calls_briefR (F := fixN 52 1 dec11f []) (tabU_ok xt1_ok) run11f Try.func11 Try.ntmps11 rfl (by decide +kernel) (by decide +kernel) (by decide +kernel) (show 1 ≤ 52 by decide) (show 1 < 4095 by decide) S0 (fun r =>  (b0, o0))
      (vals := [_]) (fun s hs => ⟨⟨by rw [hs 0 (by decide)]; rfl, by rw [hs 0 (by decide)]; exact hc0, show 0 < 1 by decide⟩, trivial⟩) (fun s hs => ⟨show 0 < 1 by decide, ⟨⟨_, hp0, rfl⟩, trivial⟩, trivial⟩) (fun r l hl hr => by cases hr) (fun r _ => lt0) (fun r q _ _ h => by cases h) ?_ ?_
    · intro s hs hH i bb hb
      obtain ⟨q2, q4, q7, q9⟩ := law11f (c0 := c0)   (hs 0 (by decide)) hH
      have := findT_mem (show findT i dec11f = some bb from hb)
      simp only [dec11f, List.mem_cons, List.not_mem_nil, or_false, Prod.mk.injEq] at this
      rcases this with ⟨rfl, rfl⟩ | ⟨rfl, rfl⟩ | ⟨rfl, rfl⟩ <;> assumption
    · intro s hs hH st' β' a' w' v hv hm hag hr hbe
      obtain ⟨q2, q4, q7, q9⟩ := law11f (c0 := c0)   (hs 0 (by decide)) hH
      have hv' : v = .bool (s 9 == 1) := hv.1
      refine ⟨?_, hbe⟩
      rw [hv', q9]
      rfl
  · have lt0 : b0 < w.heap.size := World.block_lt_of_cell? w _ (hp0 0 4 rfl)
    have f0 : farOf (mulN x0 y0 nn) = 1 := is_far (order_p (onN_on hon0))
    obtain ⟨f1, gx1, gy1⟩ := is_pt (order_less hon0) lx0 (negM_lt y0)
    let S0 : Nums := fun i => if i = 0 then x0 else if i = 1 then y0 else   c0
    refine calls_briefR (F := fixN 52 1 dec11p []) (tabU_ok xt1_ok) run11p Try.func11 Try.ntmps11 rfl (by decide +kernel) (by decide +kernel) (by decide +kernel) (show 1 ≤ 52 by decide) (show 1 < 4095 by decide) S0 (fun r =>  (b0, o0))
      (vals := [_]) (fun s hs => ⟨⟨by rw [hs 2 (by decide)]; rfl, by rw [hs 2 (by decide)]; exact hc0, show 0 < 1 by decide⟩, trivial⟩) (fun s hs => ⟨show 0 < 1 by decide, ptRow_row rfl hp0 (hs 0 (by decide)) (hs 1 (by decide)) lx0 ly0, trivial⟩) (fun r l hl hr => by cases hr) (fun r _ => lt0) (fun r q _ _ h => by cases h) ?_ ?_
    · intro s hs hH i bb hb
      obtain ⟨q3, q4, q6, q8, q10, q12, q13, q14, q16, q20, q21, q22⟩ := law11p (c0 := c0)  (x0 := x0) (y0 := y0) lx0 ly0 hon0 f0 f1 gx1 gy1 (hs 0 (by decide)) (hs 1 (by decide)) (hs 2 (by decide)) hH
      have := findT_mem (show findT i dec11p = some bb from hb)
      simp only [dec11p, List.mem_cons, List.not_mem_nil, or_false, Prod.mk.injEq] at this
      rcases this with ⟨rfl, rfl⟩ | ⟨rfl, rfl⟩ | ⟨rfl, rfl⟩ | ⟨rfl, rfl⟩ | ⟨rfl, rfl⟩ | ⟨rfl, rfl⟩ | ⟨rfl, rfl⟩ | ⟨rfl, rfl⟩ | ⟨rfl, rfl⟩ | ⟨rfl, rfl⟩ | ⟨rfl, rfl⟩ <;> assumption
    · intro s hs hH st' β' a' w' v hv hm hag hr hbe
      obtain ⟨q3, q4, q6, q8, q10, q12, q13, q14, q16, q20, q21, q22⟩ := law11p (c0 := c0)  (x0 := x0) (y0 := y0) lx0 ly0 hon0 f0 f1 gx1 gy1 (hs 0 (by decide)) (hs 1 (by decide)) (hs 2 (by decide)) hH
      have hv' : v = .bool (s 22 == 1) := hv.1
      refine ⟨?_, hbe⟩
      rw [hv', q22]
      rfl
theorem law11_all {w : World} {v : Value} {b o n u d f : Nat} (h : Sl w v b o n u d f) : Law 11 w (v :: []) := by
  by_cases hb : 2147483647 < n ∨ f = 0
  · exact law_one_x (tabU_ok xt1_ok) (n0 := 4) (vs := []) (by decide) (fun i =>  0) run11b1 run11b2 Try.func11 Try.ntmps11 (by decide +kernel) (by decide +kernel) (by decide) (by decide) (fun s β hs => trivial) h hb
  · have hf : f = 1 := by have := h.flag.le; omega
    subst hf
    exact law11_good h.point
end P224
