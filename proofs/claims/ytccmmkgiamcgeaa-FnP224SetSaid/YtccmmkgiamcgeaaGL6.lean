/- Law Set. PRINTED BY A PROGRAM OF MY OWN (gen/mkL6.py). -/
import Derived.Test.YtccmmkgiamcgeaaGR12
set_option linter.all false
namespace P224
open Go Go.RowKit Go.Proofs
set_option maxRecDepth 100000
set_option linter.unusedVariables false
theorem run6b1 : briefR (tabQ xu1) Try.f6 [] (runF (tabQ xu1) (fixN 57 2 [(8, true)] npSy2) 3000 Try.f6 stSy2) = some ⟨.ret, 9, [lenE 0], [], [.one (.lit (.bool true))], []⟩ := by kernel_rfl
theorem run6b2 : briefR (tabQ xu1) Try.f6 [] (runF (tabQ xu1) (fixN 57 2 [(8, false), (9, true)] npSy2) 3000 Try.f6 stSy2) = some ⟨.ret, 10, [lenE 4, lenE 0], [], [.one (.lit (.bool true))], []⟩ := by kernel_rfl
theorem run6b3 : briefR (tabQ xu1) Try.f6 [] (runF (tabQ xu1) (fixN 57 2 [(8, false), (9, false), (10, true)] npSy2) 3000 Try.f6 stSy2) = some ⟨.ret, 11, [.feq (.v 7) (.c 0), lenE 4, lenE 0], [], [.one (.lit (.bool true))], []⟩ := by kernel_rfl
theorem run6b4 : briefR (tabQ xu1) Try.f6 [] (runF (tabQ xu1) (fixN 57 2 [(8, false), (9, false), (10, false), (11, true)] npSy2) 3000 Try.f6 stSy2) = some ⟨.ret, 12, [.feq (.v 3) (.c 0), .feq (.v 7) (.c 0), lenE 4, lenE 0], [], [.one (.lit (.bool true))], []⟩ := by kernel_rfl
def ex6pp : List Ex := [
.op 19 ((Wd.c 4 :: (bs28 13 ++ bs28 14)) ++ (Wd.c 4 :: (bs28 19 ++ bs28 20))),
.op 4 [(.v 20), (.c pq)],
.op 4 [(.v 19), (.c pq)],
.op 23 [(.v 2), (.v 3), (.v 2), (.v 3)],
.op 22 [(.v 2), (.v 3), (.v 2), (.v 3)],
.op 21 [(.v 2), (.v 3), (.v 2), (.v 3)],
.op 20 [(.v 2), (.v 3)],
.op 20 [(.v 2), (.v 3)],
.op 19 ((Wd.c 4 :: (bs28 2 ++ bs28 3)) ++ (Wd.c 4 :: (bs28 2 ++ bs28 3))),
.op 23 [(.v 2), (.v 3), (.v 2), (.v 3)],
.op 22 [(.v 2), (.v 3), (.v 2), (.v 3)],
.op 21 [(.v 2), (.v 3), (.v 2), (.v 3)],
.op 20 [(.v 2), (.v 3)],
.op 20 [(.v 0), (.v 1)],
.feq (.v 8) (.c 0),
.op 20 [(.v 0), (.v 1)],
.feq (.v 6) (.c 0),
.op 20 [(.v 2), (.v 3)]]
def dec6pp : List (Nat × Bool) := [(6, true), (7, false), (8, true), (9, false), (10, true), (11, true), (12, false), (15, true), (16, true), (17, true), (18, false), (21, true), (22, true)]
def st6pp : St := startSt [.one (.sv 0 0 57 4), .one (.sv 1 0 57 5)] [(0, ptRow 0 1), (1, ptRow 2 3)] 6 2
def br6pp : BriefR := ⟨.ret, 24, ex6pp, [], [.one (.bl 23)], []⟩
theorem run6pp : briefR (tabQ xu1) Try.f6 [] (runF (tabQ xu1) (fixN 57 2 dec6pp []) 3000 Try.f6 st6pp) = some br6pp := by kernel_rfl
theorem law6pp {s : Nums}  {c0 : Nat} {c1 : Nat} {x0 y0 : Nat} (lx0 : x0 < pq) (ly0 : y0 < pq) (hon0 : onN x0 y0 = 1) {x1 y1 : Nat} (lx1 : x1 < pq) (ly1 : y1 < pq) (hon1 : onN x1 y1 = 1) (q0 : s 0 = x0) (q1 : s 1 = y0) (q2 : s 2 = x1) (q3 : s 3 = y1) (q4 : s 4 = c0) (q5 : s 5 = c1) (h : Holds s 24 ex6pp) : s 6 = 1 ∧ s 7 = 0 ∧ s 8 = 1 ∧ s 9 = 0 ∧ s 10 = 1 ∧ s 11 = 1 ∧ s 12 = 0 ∧ s 15 = 1 ∧ s 16 = 1 ∧ s 17 = 1 ∧ s 18 = 0 ∧ s 21 = 1 ∧ s 22 = 1 ∧ s 23 = 1 := by
  obtain ⟨h23, h22, h21, h20, h19, h18, h17, h16, h15, h14, h13, h12, h11, h10, h9, h8, h7, h6, _⟩ := h
  have q6 : s 6 = 1 := ((show s 6 = onN (s 2) (s 3) from h6).trans (by rw [q2, q3])).trans hon1
  have q7 : s 7 = 0 := (show s 7 = if s 6 = 0 then 1 else 0 from h7).trans (if_neg (by rw [q6]; decide))
  have q8 : s 8 = 1 := ((show s 8 = onN (s 0) (s 1) from h8).trans (by rw [q0, q1])).trans hon0
  have q9 : s 9 = 0 := (show s 9 = if s 8 = 0 then 1 else 0 from h9).trans (if_neg (by rw [q8]; decide))
  have q10 : s 10 = 1 := ((show s 10 = onN (s 0) (s 1) from h10).trans (by rw [q0, q1])).trans hon0
  have q11 : s 11 = 1 := ((show s 11 = onN (s 2) (s 3) from h11).trans (by rw [q2, q3])).trans hon1
  have q12 : s 12 = 0 := ((show s 12 = farOf (addN (s 2) (s 3) (s 2) (s 3)) from h12).trans (by rw [q2, q3])).trans (dbl_farOf ly1 hon1)
  have q13 : s 13 = xOf (addN x1 y1 x1 y1) := (show s 13 = xOf (addN (s 2) (s 3) (s 2) (s 3)) from h13).trans (by rw [q2, q3])
  have q14 : s 14 = yOf (addN x1 y1 x1 y1) := (show s 14 = yOf (addN (s 2) (s 3) (s 2) (s 3)) from h14).trans (by rw [q2, q3])
  have q15 : s 15 = 1 := same_pts h15 rfl rfl
  have q16 : s 16 = 1 := ((show s 16 = onN (s 2) (s 3) from h16).trans (by rw [q2, q3])).trans hon1
  have q17 : s 17 = 1 := ((show s 17 = onN (s 2) (s 3) from h17).trans (by rw [q2, q3])).trans hon1
  have q18 : s 18 = 0 := ((show s 18 = farOf (addN (s 2) (s 3) (s 2) (s 3)) from h18).trans (by rw [q2, q3])).trans (dbl_farOf ly1 hon1)
  have q19 : s 19 = xOf (addN x1 y1 x1 y1) := (show s 19 = xOf (addN (s 2) (s 3) (s 2) (s 3)) from h19).trans (by rw [q2, q3])
  have q20 : s 20 = yOf (addN x1 y1 x1 y1) := (show s 20 = yOf (addN (s 2) (s 3) (s 2) (s 3)) from h20).trans (by rw [q2, q3])
  have q21 : s 21 = 1 := (show s 21 = if s 19 < pq then 1 else 0 from h21).trans (if_pos (by rw [q19]; exact xOf_lt _))
  have q22 : s 22 = 1 := (show s 22 = if s 20 < pq then 1 else 0 from h22).trans (if_pos (by rw [q20]; exact yOf_lt _))
  have q23 : s 23 = 1 := same_pts h23 (by rw [q13, q19]) (by rw [q14, q20])
  exact ⟨q6, q7, q8, q9, q10, q11, q12, q15, q16, q17, q18, q21, q22, q23⟩
def ex6fp : List Ex := [
.op 19 ((Wd.c 4 :: (bs28 8 ++ bs28 9)) ++ (Wd.c 4 :: (bs28 14 ++ bs28 15))),
.op 4 [(.v 15), (.c pq)],
.op 4 [(.v 14), (.c pq)],
.op 23 [(.v 0), (.v 1), (.v 0), (.v 1)],
.op 22 [(.v 0), (.v 1), (.v 0), (.v 1)],
.op 21 [(.v 0), (.v 1), (.v 0), (.v 1)],
.op 20 [(.v 0), (.v 1)],
.op 20 [(.v 0), (.v 1)],
.op 19 ((Wd.c 4 :: (bs28 0 ++ bs28 1)) ++ (Wd.c 4 :: (bs28 0 ++ bs28 1))),
.op 23 [(.v 0), (.v 1), (.v 0), (.v 1)],
.op 22 [(.v 0), (.v 1), (.v 0), (.v 1)],
.op 21 [(.v 0), (.v 1), (.v 0), (.v 1)],
.op 20 [(.v 0), (.v 1)],
.feq (.v 4) (.c 0),
.op 20 [(.v 0), (.v 1)]]
def dec6fp : List (Nat × Bool) := [(4, true), (5, false), (6, true), (7, false), (10, true), (11, true), (12, true), (13, false), (16, true), (17, true)]
def st6fp : St := startSt [.one (.sv 0 0 1 2), .one (.sv 1 0 57 3)] [(0, [.lit (.int .u8 0)]), (1, ptRow 0 1)] 4 2
def br6fp : BriefR := ⟨.ret, 19, ex6fp, [], [.one (.bl 18)], []⟩
theorem run6fp : briefR (tabQ xu1) Try.f6 [] (runF (tabQ xu1) (fixN 57 2 dec6fp []) 3000 Try.f6 st6fp) = some br6fp := by kernel_rfl
theorem law6fp {s : Nums}  {c0 : Nat} {c1 : Nat} {x1 y1 : Nat} (lx1 : x1 < pq) (ly1 : y1 < pq) (hon1 : onN x1 y1 = 1) (q0 : s 0 = x1) (q1 : s 1 = y1) (q2 : s 2 = c0) (q3 : s 3 = c1) (h : Holds s 19 ex6fp) : s 4 = 1 ∧ s 5 = 0 ∧ s 6 = 1 ∧ s 7 = 0 ∧ s 10 = 1 ∧ s 11 = 1 ∧ s 12 = 1 ∧ s 13 = 0 ∧ s 16 = 1 ∧ s 17 = 1 ∧ s 18 = 1 := by
  obtain ⟨h18, h17, h16, h15, h14, h13, h12, h11, h10, h9, h8, h7, h6, h5, h4, _⟩ := h
  have q4 : s 4 = 1 := ((show s 4 = onN (s 0) (s 1) from h4).trans (by rw [q0, q1])).trans hon1
  have q5 : s 5 = 0 := (show s 5 = if s 4 = 0 then 1 else 0 from h5).trans (if_neg (by rw [q4]; decide))
  have q6 : s 6 = 1 := ((show s 6 = onN (s 0) (s 1) from h6).trans (by rw [q0, q1])).trans hon1
  have q7 : s 7 = 0 := ((show s 7 = farOf (addN (s 0) (s 1) (s 0) (s 1)) from h7).trans (by rw [q0, q1])).trans (dbl_farOf ly1 hon1)
  have q8 : s 8 = xOf (addN x1 y1 x1 y1) := (show s 8 = xOf (addN (s 0) (s 1) (s 0) (s 1)) from h8).trans (by rw [q0, q1])
  have q9 : s 9 = yOf (addN x1 y1 x1 y1) := (show s 9 = yOf (addN (s 0) (s 1) (s 0) (s 1)) from h9).trans (by rw [q0, q1])
  have q10 : s 10 = 1 := same_pts h10 rfl rfl
  have q11 : s 11 = 1 := ((show s 11 = onN (s 0) (s 1) from h11).trans (by rw [q0, q1])).trans hon1
  have q12 : s 12 = 1 := ((show s 12 = onN (s 0) (s 1) from h12).trans (by rw [q0, q1])).trans hon1
  have q13 : s 13 = 0 := ((show s 13 = farOf (addN (s 0) (s 1) (s 0) (s 1)) from h13).trans (by rw [q0, q1])).trans (dbl_farOf ly1 hon1)
  have q14 : s 14 = xOf (addN x1 y1 x1 y1) := (show s 14 = xOf (addN (s 0) (s 1) (s 0) (s 1)) from h14).trans (by rw [q0, q1])
  have q15 : s 15 = yOf (addN x1 y1 x1 y1) := (show s 15 = yOf (addN (s 0) (s 1) (s 0) (s 1)) from h15).trans (by rw [q0, q1])
  have q16 : s 16 = 1 := (show s 16 = if s 14 < pq then 1 else 0 from h16).trans (if_pos (by rw [q14]; exact xOf_lt _))
  have q17 : s 17 = 1 := (show s 17 = if s 15 < pq then 1 else 0 from h17).trans (if_pos (by rw [q15]; exact yOf_lt _))
  have q18 : s 18 = 1 := same_pts h18 (by rw [q8, q14]) (by rw [q9, q15])
  exact ⟨q4, q5, q6, q7, q10, q11, q12, q13, q16, q17, q18⟩
def ex6pf : List Ex := [
.op 19 [.c 0, .c 0],
.op 19 [.c 0, .c 0],
.op 20 [(.v 0), (.v 1)],
.feq (.v 4) (.c 0),
.op 20 [(.v 0), (.v 1)]]
def dec6pf : List (Nat × Bool) := [(4, true), (5, false), (6, true), (7, true)]
def st6pf : St := startSt [.one (.sv 0 0 57 2), .one (.sv 1 0 1 3)] [(0, ptRow 0 1), (1, [.lit (.int .u8 0)])] 4 2
def br6pf : BriefR := ⟨.ret, 9, ex6pf, [], [.one (.bl 8)], []⟩
theorem run6pf : briefR (tabQ xu1) Try.f6 [] (runF (tabQ xu1) (fixN 57 2 dec6pf []) 3000 Try.f6 st6pf) = some br6pf := by kernel_rfl
theorem law6pf {s : Nums}  {c0 : Nat} {c1 : Nat} {x0 y0 : Nat} (lx0 : x0 < pq) (ly0 : y0 < pq) (hon0 : onN x0 y0 = 1) (q0 : s 0 = x0) (q1 : s 1 = y0) (q2 : s 2 = c0) (q3 : s 3 = c1) (h : Holds s 9 ex6pf) : s 4 = 1 ∧ s 5 = 0 ∧ s 6 = 1 ∧ s 7 = 1 ∧ s 8 = 1 := by
  obtain ⟨h8, h7, h6, h5, h4, _⟩ := h
  have q4 : s 4 = 1 := ((show s 4 = onN (s 0) (s 1) from h4).trans (by rw [q0, q1])).trans hon0
  have q5 : s 5 = 0 := (show s 5 = if s 4 = 0 then 1 else 0 from h5).trans (if_neg (by rw [q4]; decide))
  have q6 : s 6 = 1 := ((show s 6 = onN (s 0) (s 1) from h6).trans (by rw [q0, q1])).trans hon0
  have q7 : s 7 = 1 := (show s 7 = opVal 19 ([0] ++ [0]) from h7).trans (opVal_19 [0] [0] rfl)
  have q8 : s 8 = 1 := (show s 8 = opVal 19 ([0] ++ [0]) from h8).trans (opVal_19 [0] [0] rfl)
  exact ⟨q4, q5, q6, q7, q8⟩
def ex6ff : List Ex := [
.op 19 [.c 0, .c 0],
.op 19 [.c 0, .c 0]]
def dec6ff : List (Nat × Bool) := [(2, true)]
def st6ff : St := startSt [.one (.sv 0 0 1 0), .one (.sv 1 0 1 1)] [(0, [.lit (.int .u8 0)]), (1, [.lit (.int .u8 0)])] 2 2
def br6ff : BriefR := ⟨.ret, 4, ex6ff, [], [.one (.bl 3)], []⟩
theorem run6ff : briefR (tabQ xu1) Try.f6 [] (runF (tabQ xu1) (fixN 57 2 dec6ff []) 3000 Try.f6 st6ff) = some br6ff := by kernel_rfl
theorem law6ff {s : Nums}  {c0 : Nat} {c1 : Nat} (q0 : s 0 = c0) (q1 : s 1 = c1) (h : Holds s 4 ex6ff) : s 2 = 1 ∧ s 3 = 1 := by
  obtain ⟨h3, h2, _⟩ := h
  have q2 : s 2 = 1 := (show s 2 = opVal 19 ([0] ++ [0]) from h2).trans (opVal_19 [0] [0] rfl)
  have q3 : s 3 = 1 := (show s 3 = opVal 19 ([0] ++ [0]) from h3).trans (opVal_19 [0] [0] rfl)
  exact ⟨q2, q3⟩
theorem law6_good {w : World} {v v' : Value} (h1 : PtOf w v) (h2 : PtOf w v') : Law 6 w [v, v'] := by
  rcases h1 with ⟨b0, o0, c0, rfl, hc0, hp0⟩ | ⟨b0, o0, c0, x0, y0, rfl, hc0, hp0, lx0, ly0, hon0⟩
  · have lt0 : b0 < w.heap.size := World.block_lt_of_cell? w _ hp0
    rcases h2 with ⟨b1, o1, c1, rfl, hc1, hp1⟩ | ⟨b1, o1, c1, x1, y1, rfl, hc1, hp1, lx1, ly1, hon1⟩
    · have lt1 : b1 < w.heap.size := World.block_lt_of_cell? w _ hp1
      refine calls_briefR (F := fixN 57 2 dec6ff []) (tabQ_ok xu1_ok) run6ff Try.func6 Try.ntmps6 rfl (by decide +kernel) (by decide +kernel) (by decide +kernel) (show 2 ≤ 57 by decide) (show 2 < 4095 by decide) (fun i => if i = 0 then c0 else c1) (fun r => if r = 0 then (b0, o0) else (b1, o1))
        (vals := [_, _]) (fun s hs => ⟨⟨by rw [hs 0 (by decide)]; rfl, by rw [hs 0 (by decide)]; exact hc0, show 0 < 2 by decide⟩, ⟨by rw [hs 1 (by decide)]; rfl, by rw [hs 1 (by decide)]; exact hc1, show 1 < 2 by decide⟩, trivial⟩) (fun s hs => ⟨show 0 < 2 by decide, ⟨⟨_, hp0, rfl⟩, trivial⟩, show 1 < 2 by decide, ⟨⟨_, hp1, rfl⟩, trivial⟩, trivial⟩) (fun r l hl hr => by cases hr) (fun r _ => (by show (if r = 0 then (b0, o0) else (b1, o1)).1 < _; split; exact lt0; exact lt1)) (fun r q _ _ h => by cases h) ?_ ?_
      · intro s hs hH i bb hb
        obtain ⟨q2, q3⟩ := law6ff (c0 := c0) (c1 := c1)  (hs 0 (by decide)) (hs 1 (by decide)) hH
        have := findT_mem (show findT i dec6ff = some bb from hb)
        simp only [dec6ff, List.mem_cons, List.not_mem_nil, or_false, Prod.mk.injEq] at this
        obtain ⟨rfl, rfl⟩ := this
        assumption
      · intro s hs hH st' β' a' w' v hv hm hag hr hbe
        obtain ⟨q2, q3⟩ := law6ff (c0 := c0) (c1 := c1)  (hs 0 (by decide)) (hs 1 (by decide)) hH
        have hv' : v = .bool (s 3 == 1) := hv.1
        refine ⟨?_, hbe⟩
        rw [hv', q3]
        rfl
    · have lt1 : b1 < w.heap.size := World.block_lt_of_cell? w _ (hp1 0 4 rfl)
      refine calls_briefR (F := fixN 57 2 dec6fp []) (tabQ_ok xu1_ok) run6fp Try.func6 Try.ntmps6 rfl (by decide +kernel) (by decide +kernel) (by decide +kernel) (show 2 ≤ 57 by decide) (show 2 < 4095 by decide) (fun i => if i = 0 then x1 else if i = 1 then y1 else if i = 2 then c0 else c1) (fun r => if r = 0 then (b0, o0) else (b1, o1))
        (vals := [_, _]) (fun s hs => ⟨⟨by rw [hs 2 (by decide)]; rfl, by rw [hs 2 (by decide)]; exact hc0, show 0 < 2 by decide⟩, ⟨by rw [hs 3 (by decide)]; rfl, by rw [hs 3 (by decide)]; exact hc1, show 1 < 2 by decide⟩, trivial⟩) (fun s hs => ⟨show 0 < 2 by decide, ⟨⟨_, hp0, rfl⟩, trivial⟩, show 1 < 2 by decide, ptRow_row rfl hp1 (hs 0 (by decide)) (hs 1 (by decide)) lx1 ly1, trivial⟩) (fun r l hl hr => by cases hr) (fun r _ => (by show (if r = 0 then (b0, o0) else (b1, o1)).1 < _; split; exact lt0; exact lt1)) (fun r q _ _ h => by cases h) ?_ ?_
      · intro s hs hH i bb hb
        obtain ⟨q4, q5, q6, q7, q10, q11, q12, q13, q16, q17, q18⟩ := law6fp (c0 := c0) (c1 := c1) (x1 := x1) (y1 := y1) lx1 ly1 hon1 (hs 0 (by decide)) (hs 1 (by decide)) (hs 2 (by decide)) (hs 3 (by decide)) hH
        have := findT_mem (show findT i dec6fp = some bb from hb)
        simp only [dec6fp, List.mem_cons, List.not_mem_nil, or_false, Prod.mk.injEq] at this
        rcases this with ⟨rfl, rfl⟩ | ⟨rfl, rfl⟩ | ⟨rfl, rfl⟩ | ⟨rfl, rfl⟩ | ⟨rfl, rfl⟩ | ⟨rfl, rfl⟩ | ⟨rfl, rfl⟩ | ⟨rfl, rfl⟩ | ⟨rfl, rfl⟩ | ⟨rfl, rfl⟩ <;> assumption
      · intro s hs hH st' β' a' w' v hv hm hag hr hbe
        obtain ⟨q4, q5, q6, q7, q10, q11, q12, q13, q16, q17, q18⟩ := law6fp (c0 := c0) (c1 := c1) (x1 := x1) (y1 := y1) lx1 ly1 hon1 (hs 0 (by decide)) (hs 1 (by decide)) (hs 2 (by decide)) (hs 3 (by decide)) hH
        have hv' : v = .bool (s 18 == 1) := hv.1
        refine ⟨?_, hbe⟩
        rw [hv', q18]
        rfl
  · have lt0 : b0 < w.heap.size := World.block_lt_of_cell? w _ (hp0 0 4 rfl)
    rcases h2 with ⟨b1, o1, c1, rfl, hc1, hp1⟩ | ⟨b1, o1, c1, x1, y1, rfl, hc1, hp1, lx1, ly1, hon1⟩
    · have lt1 : b1 < w.heap.size := World.block_lt_of_cell? w _ hp1
      refine calls_briefR (F := fixN 57 2 dec6pf []) (tabQ_ok xu1_ok) run6pf Try.func6 Try.ntmps6 rfl (by decide +kernel) (by decide +kernel) (by decide +kernel) (show 2 ≤ 57 by decide) (show 2 < 4095 by decide) (fun i => if i = 0 then x0 else if i = 1 then y0 else if i = 2 then c0 else c1) (fun r => if r = 0 then (b0, o0) else (b1, o1))
        (vals := [_, _]) (fun s hs => ⟨⟨by rw [hs 2 (by decide)]; rfl, by rw [hs 2 (by decide)]; exact hc0, show 0 < 2 by decide⟩, ⟨by rw [hs 3 (by decide)]; rfl, by rw [hs 3 (by decide)]; exact hc1, show 1 < 2 by decide⟩, trivial⟩) (fun s hs => ⟨show 0 < 2 by decide, ptRow_row rfl hp0 (hs 0 (by decide)) (hs 1 (by decide)) lx0 ly0, show 1 < 2 by decide, ⟨⟨_, hp1, rfl⟩, trivial⟩, trivial⟩) (fun r l hl hr => by cases hr) (fun r _ => (by show (if r = 0 then (b0, o0) else (b1, o1)).1 < _; split; exact lt0; exact lt1)) (fun r q _ _ h => by cases h) ?_ ?_
      · intro s hs hH i bb hb
        obtain ⟨q4, q5, q6, q7, q8⟩ := law6pf (c0 := c0) (c1 := c1) (x0 := x0) (y0 := y0) lx0 ly0 hon0 (hs 0 (by decide)) (hs 1 (by decide)) (hs 2 (by decide)) (hs 3 (by decide)) hH
        have := findT_mem (show findT i dec6pf = some bb from hb)
        simp only [dec6pf, List.mem_cons, List.not_mem_nil, or_false, Prod.mk.injEq] at this
        rcases this with ⟨rfl, rfl⟩ | ⟨rfl, rfl⟩ | ⟨rfl, rfl⟩ | ⟨rfl, rfl⟩ <;> assumption
      · intro s hs hH st' β' a' w' v hv hm hag hr hbe
        obtain ⟨q4, q5, q6, q7, q8⟩ := law6pf (c0 := c0) (c1 := c1) (x0 := x0) (y0 := y0) lx0 ly0 hon0 (hs 0 (by decide)) (hs 1 (by decide)) (hs 2 (by decide)) (hs 3 (by decide)) hH
        have hv' : v = .bool (s 8 == 1) := hv.1
        refine ⟨?_, hbe⟩
        rw [hv', q8]
        rfl
    · have lt1 : b1 < w.heap.size := World.block_lt_of_cell? w _ (hp1 0 4 rfl)
      refine calls_briefR (F := fixN 57 2 dec6pp []) (tabQ_ok xu1_ok) run6pp Try.func6 Try.ntmps6 rfl (by decide +kernel) (by decide +kernel) (by decide +kernel) (show 2 ≤ 57 by decide) (show 2 < 4095 by decide) (fun i => if i = 0 then x0 else if i = 1 then y0 else if i = 2 then x1 else if i = 3 then y1 else if i = 4 then c0 else c1) (fun r => if r = 0 then (b0, o0) else (b1, o1))
        (vals := [_, _]) (fun s hs => ⟨⟨by rw [hs 4 (by decide)]; rfl, by rw [hs 4 (by decide)]; exact hc0, show 0 < 2 by decide⟩, ⟨by rw [hs 5 (by decide)]; rfl, by rw [hs 5 (by decide)]; exact hc1, show 1 < 2 by decide⟩, trivial⟩) (fun s hs => ⟨show 0 < 2 by decide, ptRow_row rfl hp0 (hs 0 (by decide)) (hs 1 (by decide)) lx0 ly0, show 1 < 2 by decide, ptRow_row rfl hp1 (hs 2 (by decide)) (hs 3 (by decide)) lx1 ly1, trivial⟩) (fun r l hl hr => by cases hr) (fun r _ => (by show (if r = 0 then (b0, o0) else (b1, o1)).1 < _; split; exact lt0; exact lt1)) (fun r q _ _ h => by cases h) ?_ ?_
      · intro s hs hH i bb hb
        obtain ⟨q6, q7, q8, q9, q10, q11, q12, q15, q16, q17, q18, q21, q22, q23⟩ := law6pp (c0 := c0) (c1 := c1) (x0 := x0) (y0 := y0) (x1 := x1) (y1 := y1) lx0 ly0 hon0 lx1 ly1 hon1 (hs 0 (by decide)) (hs 1 (by decide)) (hs 2 (by decide)) (hs 3 (by decide)) (hs 4 (by decide)) (hs 5 (by decide)) hH
        have := findT_mem (show findT i dec6pp = some bb from hb)
        simp only [dec6pp, List.mem_cons, List.not_mem_nil, or_false, Prod.mk.injEq] at this
        rcases this with ⟨rfl, rfl⟩ | ⟨rfl, rfl⟩ | ⟨rfl, rfl⟩ | ⟨rfl, rfl⟩ | ⟨rfl, rfl⟩ | ⟨rfl, rfl⟩ | ⟨rfl, rfl⟩ | ⟨rfl, rfl⟩ | ⟨rfl, rfl⟩ | ⟨rfl, rfl⟩ | ⟨rfl, rfl⟩ | ⟨rfl, rfl⟩ | ⟨rfl, rfl⟩ <;> assumption
      · intro s hs hH st' β' a' w' v hv hm hag hr hbe
        obtain ⟨q6, q7, q8, q9, q10, q11, q12, q15, q16, q17, q18, q21, q22, q23⟩ := law6pp (c0 := c0) (c1 := c1) (x0 := x0) (y0 := y0) (x1 := x1) (y1 := y1) lx0 ly0 hon0 lx1 ly1 hon1 (hs 0 (by decide)) (hs 1 (by decide)) (hs 2 (by decide)) (hs 3 (by decide)) (hs 4 (by decide)) (hs 5 (by decide)) hH
        have hv' : v = .bool (s 23 == 1) := hv.1
        refine ⟨?_, hbe⟩
        rw [hv', q23]
        rfl
theorem law6_all {w : World} {v v' : Value} {b o n u d f b' o' n' u' d' f' : Nat} (h : Sl w v b o n u d f) (h' : Sl w v' b' o' n' u' d' f') : Law 6 w [v, v'] := by
  by_cases hb : 2147483647 < n ∨ 2147483647 < n' ∨ f = 0 ∨ f' = 0
  · exact law_twoS (tabQ_ok xu1_ok) run6b1 run6b2 run6b3 run6b4 Try.func6 Try.ntmps6 (by decide) h h' hb
  · have hf : f = 1 := by have := h.flag.le; omega
    have hf' : f' = 1 := by have := h'.flag.le; omega
    subst hf
    subst hf'
    exact law6_good h.point h'.point
end P224
