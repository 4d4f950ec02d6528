/- Law Add. PRINTED BY A PROGRAM OF MY OWN (gen/mkL7.py). -/
import Derived.Test.YtccmmkgiamcgeaaGQ3
set_option linter.all false
namespace P224
open Go Go.RowKit Go.Proofs
set_option maxRecDepth 100000
set_option linter.unusedVariables false
theorem run7b1 : briefR (tabZ xy2) Try.f7 [] (runF (tabZ xy2) (fixN 56 2 [(8, true)] npSy2) 3000 Try.f7 stSy2) = some ⟨.ret, 9, [lenE 0], [], [.one (.lit (.bool true))], []⟩ := by kernel_rfl
theorem run7b2 : briefR (tabZ xy2) Try.f7 [] (runF (tabZ xy2) (fixN 56 2 [(8, false), (9, true)] npSy2) 3000 Try.f7 stSy2) = some ⟨.ret, 10, [lenE 4, lenE 0], [], [.one (.lit (.bool true))], []⟩ := by kernel_rfl
theorem run7b3 : briefR (tabZ xy2) Try.f7 [] (runF (tabZ xy2) (fixN 56 2 [(8, false), (9, false), (10, true)] npSy2) 3000 Try.f7 stSy2) = some ⟨.ret, 11, [.feq (.v 3) (.c 0), lenE 4, lenE 0], [], [.one (.lit (.bool true))], []⟩ := by kernel_rfl
theorem run7b4 : briefR (tabZ xy2) Try.f7 [] (runF (tabZ xy2) (fixN 56 2 [(8, false), (9, false), (10, false), (11, true)] npSy2) 3000 Try.f7 stSy2) = some ⟨.ret, 12, [.feq (.v 7) (.c 0), .feq (.v 3) (.c 0), lenE 4, lenE 0], [], [.one (.lit (.bool true))], []⟩ := by kernel_rfl
def ex7F : List Ex := [
.op 19 [.c 0, .c 0],
.op 21 [(.v 0), (.v 1), (.v 2), (.v 3)],
.op 20 [(.v 2), (.v 3)],
.op 20 [(.v 0), (.v 1)],
.op 21 [(.v 0), (.v 1), (.v 2), (.v 3)],
.op 20 [(.v 2), (.v 3)],
.op 20 [(.v 0), (.v 1)],
.feq (.v 5) (.c 0),
.feq (.v 4) (.c 0),
.op 20 [(.v 2), (.v 3)],
.op 20 [(.v 0), (.v 1)]]
def dec7F : List (Nat × Bool) := [(4, true), (5, true), (6, false), (7, false), (8, true), (9, true), (10, true), (11, true), (12, true), (13, true)]
def st7F : St := startSt [.one (.sl 0 0 57), .one (.sl 1 0 57)] [(0, ptRow 0 1), (1, ptRow 2 3)] 4 2
def br7F : BriefR := ⟨.ret, 15, ex7F, [], [.one (.bl 14)], []⟩
theorem run7F : briefR (tabZ xy2) Try.f7 [] (runF (tabZ xy2) (fixN 56 2 dec7F []) 3000 Try.f7 st7F) = some br7F := by kernel_rfl
theorem law7F {s : Nums}  {x0 y0 : Nat} (lx0 : x0 < pq) (ly0 : y0 < pq) (hon0 : onN x0 y0 = 1) {x1 y1 : Nat} (lx1 : x1 < pq) (ly1 : y1 < pq) (hon1 : onN x1 y1 = 1) (hfar : farOf (addN x0 y0 x1 y1) = 1) (q0 : s 0 = x0) (q1 : s 1 = y0) (q2 : s 2 = x1) (q3 : s 3 = y1) (h : Holds s 15 ex7F) : s 4 = 1 ∧ s 5 = 1 ∧ s 6 = 0 ∧ s 7 = 0 ∧ s 8 = 1 ∧ s 9 = 1 ∧ s 10 = 1 ∧ s 11 = 1 ∧ s 12 = 1 ∧ s 13 = 1 ∧ s 14 = 1 := by
  obtain ⟨h14, h13, h12, h11, h10, h9, h8, h7, h6, h5, h4, _⟩ := h
  have q4 : s 4 = 1 := ((show s 4 = onN (s 0) (s 1) from h4).trans (by rw [q0, q1])).trans hon0
  have q5 : s 5 = 1 := ((show s 5 = onN (s 2) (s 3) from h5).trans (by rw [q2, q3])).trans hon1
  have q6 : s 6 = 0 := (show s 6 = if s 4 = 0 then 1 else 0 from h6).trans (if_neg (by rw [q4]; decide))
  have q7 : s 7 = 0 := (show s 7 = if s 5 = 0 then 1 else 0 from h7).trans (if_neg (by rw [q5]; decide))
  have q8 : s 8 = 1 := ((show s 8 = onN (s 0) (s 1) from h8).trans (by rw [q0, q1])).trans hon0
  have q9 : s 9 = 1 := ((show s 9 = onN (s 2) (s 3) from h9).trans (by rw [q2, q3])).trans hon1
  have q10 : s 10 = 1 := ((show s 10 = farOf (addN (s 0) (s 1) (s 2) (s 3)) from h10).trans (by rw [q0, q1, q2, q3])).trans hfar
  have q11 : s 11 = 1 := ((show s 11 = onN (s 0) (s 1) from h11).trans (by rw [q0, q1])).trans hon0
  have q12 : s 12 = 1 := ((show s 12 = onN (s 2) (s 3) from h12).trans (by rw [q2, q3])).trans hon1
  have q13 : s 13 = 1 := ((show s 13 = farOf (addN (s 0) (s 1) (s 2) (s 3)) from h13).trans (by rw [q0, q1, q2, q3])).trans hfar
  have q14 : s 14 = 1 := (show s 14 = opVal 19 ([0] ++ [0]) from h14).trans (opVal_19 [0] [0] rfl)
  exact ⟨q4, q5, q6, q7, q8, q9, q10, q11, q12, q13, q14⟩
def ex7N : List Ex := [
.op 19 ((Wd.c 4 :: (bs28 11 ++ bs28 12)) ++ (Wd.c 4 :: (bs28 16 ++ bs28 17))),
.op 4 [(.v 17), (.c pq)],
.op 4 [(.v 16), (.c pq)],
.op 23 [(.v 0), (.v 1), (.v 2), (.v 3)],
.op 22 [(.v 0), (.v 1), (.v 2), (.v 3)],
.op 21 [(.v 0), (.v 1), (.v 2), (.v 3)],
.op 20 [(.v 2), (.v 3)],
.op 20 [(.v 0), (.v 1)],
.op 23 [(.v 0), (.v 1), (.v 2), (.v 3)],
.op 22 [(.v 0), (.v 1), (.v 2), (.v 3)],
.op 21 [(.v 0), (.v 1), (.v 2), (.v 3)],
.op 20 [(.v 2), (.v 3)],
.op 20 [(.v 0), (.v 1)],
.feq (.v 5) (.c 0),
.feq (.v 4) (.c 0),
.op 20 [(.v 2), (.v 3)],
.op 20 [(.v 0), (.v 1)]]
def dec7N : List (Nat × Bool) := [(4, true), (5, true), (6, false), (7, false), (8, true), (9, true), (10, false), (13, true), (14, true), (15, false), (18, true), (19, true)]
def st7N : St := startSt [.one (.sl 0 0 57), .one (.sl 1 0 57)] [(0, ptRow 0 1), (1, ptRow 2 3)] 4 2
def br7N : BriefR := ⟨.ret, 21, ex7N, [], [.one (.bl 20)], []⟩
theorem run7N : briefR (tabZ xy2) Try.f7 [] (runF (tabZ xy2) (fixN 56 2 dec7N []) 3000 Try.f7 st7N) = some br7N := by kernel_rfl
theorem law7N {s : Nums}  {x0 y0 : Nat} (lx0 : x0 < pq) (ly0 : y0 < pq) (hon0 : onN x0 y0 = 1) {x1 y1 : Nat} (lx1 : x1 < pq) (ly1 : y1 < pq) (hon1 : onN x1 y1 = 1) (hfar : farOf (addN x0 y0 x1 y1) = 0) (q0 : s 0 = x0) (q1 : s 1 = y0) (q2 : s 2 = x1) (q3 : s 3 = y1) (h : Holds s 21 ex7N) : s 4 = 1 ∧ s 5 = 1 ∧ s 6 = 0 ∧ s 7 = 0 ∧ s 8 = 1 ∧ s 9 = 1 ∧ s 10 = 0 ∧ s 13 = 1 ∧ s 14 = 1 ∧ s 15 = 0 ∧ s 18 = 1 ∧ s 19 = 1 ∧ s 20 = 1 := by
  obtain ⟨h20, h19, h18, h17, h16, h15, h14, h13, h12, h11, h10, h9, h8, h7, h6, h5, h4, _⟩ := h
  have q4 : s 4 = 1 := ((show s 4 = onN (s 0) (s 1) from h4).trans (by rw [q0, q1])).trans hon0
  have q5 : s 5 = 1 := ((show s 5 = onN (s 2) (s 3) from h5).trans (by rw [q2, q3])).trans hon1
  have q6 : s 6 = 0 := (show s 6 = if s 4 = 0 then 1 else 0 from h6).trans (if_neg (by rw [q4]; decide))
  have q7 : s 7 = 0 := (show s 7 = if s 5 = 0 then 1 else 0 from h7).trans (if_neg (by rw [q5]; decide))
  have q8 : s 8 = 1 := ((show s 8 = onN (s 0) (s 1) from h8).trans (by rw [q0, q1])).trans hon0
  have q9 : s 9 = 1 := ((show s 9 = onN (s 2) (s 3) from h9).trans (by rw [q2, q3])).trans hon1
  have q10 : s 10 = 0 := ((show s 10 = farOf (addN (s 0) (s 1) (s 2) (s 3)) from h10).trans (by rw [q0, q1, q2, q3])).trans hfar
  have q11 : s 11 = xOf (addN x0 y0 x1 y1) := (show s 11 = xOf (addN (s 0) (s 1) (s 2) (s 3)) from h11).trans (by rw [q0, q1, q2, q3])
  have q12 : s 12 = yOf (addN x0 y0 x1 y1) := (show s 12 = yOf (addN (s 0) (s 1) (s 2) (s 3)) from h12).trans (by rw [q0, q1, q2, q3])
  have q13 : s 13 = 1 := ((show s 13 = onN (s 0) (s 1) from h13).trans (by rw [q0, q1])).trans hon0
  have q14 : s 14 = 1 := ((show s 14 = onN (s 2) (s 3) from h14).trans (by rw [q2, q3])).trans hon1
  have q15 : s 15 = 0 := ((show s 15 = farOf (addN (s 0) (s 1) (s 2) (s 3)) from h15).trans (by rw [q0, q1, q2, q3])).trans hfar
  have q16 : s 16 = xOf (addN x0 y0 x1 y1) := (show s 16 = xOf (addN (s 0) (s 1) (s 2) (s 3)) from h16).trans (by rw [q0, q1, q2, q3])
  have q17 : s 17 = yOf (addN x0 y0 x1 y1) := (show s 17 = yOf (addN (s 0) (s 1) (s 2) (s 3)) from h17).trans (by rw [q0, q1, q2, q3])
  have q18 : s 18 = 1 := (show s 18 = if s 16 < pq then 1 else 0 from h18).trans (if_pos (by rw [q16]; exact xOf_lt _))
  have q19 : s 19 = 1 := (show s 19 = if s 17 < pq then 1 else 0 from h19).trans (if_pos (by rw [q17]; exact yOf_lt _))
  have q20 : s 20 = 1 := same_pts h20 (by rw [q11, q16]) (by rw [q12, q17])
  exact ⟨q4, q5, q6, q7, q8, q9, q10, q13, q14, q15, q18, q19, q20⟩
def ex7fp : List Ex := [
.op 19 ((Wd.c 4 :: (bs28 0 ++ bs28 1)) ++ (Wd.c 4 :: (bs28 0 ++ bs28 1))),
.op 4 [(.v 1), (.c pq)],
.op 4 [(.v 0), (.c pq)],
.op 20 [(.v 0), (.v 1)],
.feq (.v 2) (.c 0),
.op 20 [(.v 0), (.v 1)]]
def dec7fp : List (Nat × Bool) := [(2, true), (3, false), (4, true), (5, true), (6, true)]
def st7fp : St := startSt [.one (.sl 0 0 1), .one (.sl 1 0 57)] [(0, [.lit (.int .u8 0)]), (1, ptRow 0 1)] 2 2
def br7fp : BriefR := ⟨.ret, 8, ex7fp, [], [.one (.bl 7)], []⟩
theorem run7fp : briefR (tabZ xy2) Try.f7 [] (runF (tabZ xy2) (fixN 56 2 dec7fp []) 3000 Try.f7 st7fp) = some br7fp := by kernel_rfl
theorem law7fp {s : Nums}  {x1 y1 : Nat} (lx1 : x1 < pq) (ly1 : y1 < pq) (hon1 : onN x1 y1 = 1) (q0 : s 0 = x1) (q1 : s 1 = y1) (h : Holds s 8 ex7fp) : s 2 = 1 ∧ s 3 = 0 ∧ s 4 = 1 ∧ s 5 = 1 ∧ s 6 = 1 ∧ s 7 = 1 := by
  obtain ⟨h7, h6, h5, h4, h3, h2, _⟩ := h
  have q2 : s 2 = 1 := ((show s 2 = onN (s 0) (s 1) from h2).trans (by rw [q0, q1])).trans hon1
  have q3 : s 3 = 0 := (show s 3 = if s 2 = 0 then 1 else 0 from h3).trans (if_neg (by rw [q2]; decide))
  have q4 : s 4 = 1 := ((show s 4 = onN (s 0) (s 1) from h4).trans (by rw [q0, q1])).trans hon1
  have q5 : s 5 = 1 := (show s 5 = if s 0 < pq then 1 else 0 from h5).trans (if_pos (by rw [q0]; exact lx1))
  have q6 : s 6 = 1 := (show s 6 = if s 1 < pq then 1 else 0 from h6).trans (if_pos (by rw [q1]; exact ly1))
  have q7 : s 7 = 1 := same_pts h7 rfl rfl
  exact ⟨q2, q3, q4, q5, q6, q7⟩
def ex7pf : List Ex := [
.op 19 ((Wd.c 4 :: (bs28 0 ++ bs28 1)) ++ (Wd.c 4 :: (bs28 0 ++ bs28 1))),
.op 4 [(.v 1), (.c pq)],
.op 4 [(.v 0), (.c pq)],
.op 20 [(.v 0), (.v 1)],
.feq (.v 2) (.c 0),
.op 20 [(.v 0), (.v 1)]]
def dec7pf : List (Nat × Bool) := [(2, true), (3, false), (4, true), (5, true), (6, true)]
def st7pf : St := startSt [.one (.sl 0 0 57), .one (.sl 1 0 1)] [(0, ptRow 0 1), (1, [.lit (.int .u8 0)])] 2 2
def br7pf : BriefR := ⟨.ret, 8, ex7pf, [], [.one (.bl 7)], []⟩
theorem run7pf : briefR (tabZ xy2) Try.f7 [] (runF (tabZ xy2) (fixN 56 2 dec7pf []) 3000 Try.f7 st7pf) = some br7pf := by kernel_rfl
theorem law7pf {s : Nums}  {x0 y0 : Nat} (lx0 : x0 < pq) (ly0 : y0 < pq) (hon0 : onN x0 y0 = 1) (q0 : s 0 = x0) (q1 : s 1 = y0) (h : Holds s 8 ex7pf) : s 2 = 1 ∧ s 3 = 0 ∧ s 4 = 1 ∧ s 5 = 1 ∧ s 6 = 1 ∧ s 7 = 1 := by
  obtain ⟨h7, h6, h5, h4, h3, h2, _⟩ := h
  have q2 : s 2 = 1 := ((show s 2 = onN (s 0) (s 1) from h2).trans (by rw [q0, q1])).trans hon0
  have q3 : s 3 = 0 := (show s 3 = if s 2 = 0 then 1 else 0 from h3).trans (if_neg (by rw [q2]; decide))
  have q4 : s 4 = 1 := ((show s 4 = onN (s 0) (s 1) from h4).trans (by rw [q0, q1])).trans hon0
  have q5 : s 5 = 1 := (show s 5 = if s 0 < pq then 1 else 0 from h5).trans (if_pos (by rw [q0]; exact lx0))
  have q6 : s 6 = 1 := (show s 6 = if s 1 < pq then 1 else 0 from h6).trans (if_pos (by rw [q1]; exact ly0))
  have q7 : s 7 = 1 := same_pts h7 rfl rfl
  exact ⟨q2, q3, q4, q5, q6, q7⟩
def ex7ff : List Ex := [
.op 19 [.c 0, .c 0]]
def dec7ff : List (Nat × Bool) := []
def st7ff : St := startSt [.one (.sl 0 0 1), .one (.sl 1 0 1)] [(0, [.lit (.int .u8 0)]), (1, [.lit (.int .u8 0)])] 0 2
def br7ff : BriefR := ⟨.ret, 1, ex7ff, [], [.one (.bl 0)], []⟩
theorem run7ff : briefR (tabZ xy2) Try.f7 [] (runF (tabZ xy2) (fixN 56 2 dec7ff []) 3000 Try.f7 st7ff) = some br7ff := by kernel_rfl
theorem law7ff {s : Nums}   (h : Holds s 1 ex7ff) : s 0 = 1 := by
  obtain ⟨h0, _⟩ := h
  have q0 : s 0 = 1 := (show s 0 = opVal 19 ([0] ++ [0]) from h0).trans (opVal_19 [0] [0] rfl)
  exact q0
theorem law7_good {w : World} {v v' : Value} (h1 : PtOf w v) (h2 : PtOf w v') : Law 7 w [v, v'] := by
  rcases h1 with ⟨b0, o0, c0, rfl, hc0, hp0⟩ | ⟨b0, o0, c0, x0, y0, rfl, hc0, hp0, lx0, ly0, hon0⟩
  · have lt0 : b0 < w.heap.size := World.block_lt_of_cell? w _ hp0
    rcases h2 with ⟨b1, o1, c1, rfl, hc1, hp1⟩ | ⟨b1, o1, c1, x1, y1, rfl, hc1, hp1, lx1, ly1, hon1⟩
    · have lt1 : b1 < w.heap.size := World.block_lt_of_cell? w _ hp1
      refine calls_briefR (F := fixN 56 2 dec7ff []) (tabZ_ok xy2_ok) run7ff Try.func7 Try.ntmps7 rfl (by decide +kernel) (by decide +kernel) (by decide +kernel) (show 2 ≤ 56 by decide) (show 2 < 4095 by decide) (fun _ => 0) (fun r => if r = 0 then (b0, o0) else (b1, o1))
        (vals := [_, _]) (fun s hs => ⟨⟨c0, hc0, rfl, show 0 < 2 by decide⟩, ⟨c1, hc1, rfl, show 1 < 2 by decide⟩, trivial⟩) (fun s hs => ⟨show 0 < 2 by decide, ⟨⟨_, hp0, rfl⟩, trivial⟩, show 1 < 2 by decide, ⟨⟨_, hp1, rfl⟩, trivial⟩, trivial⟩) (fun r l hl hr => by cases hr) (fun r _ => (by show (if r = 0 then (b0, o0) else (b1, o1)).1 < _; split; exact lt0; exact lt1)) (fun r q _ _ h => by cases h) ?_ ?_
      · intro s hs hH i bb hb
        cases hb
      · intro s hs hH st' β' a' w' v hv hm hag hr hbe
        have q0 := law7ff   hH
        have hv' : v = .bool (s 0 == 1) := hv.1
        refine ⟨?_, hbe⟩
        rw [hv', q0]
        rfl
    · have lt1 : b1 < w.heap.size := World.block_lt_of_cell? w _ (hp1 0 4 rfl)
      refine calls_briefR (F := fixN 56 2 dec7fp []) (tabZ_ok xy2_ok) run7fp Try.func7 Try.ntmps7 rfl (by decide +kernel) (by decide +kernel) (by decide +kernel) (show 2 ≤ 56 by decide) (show 2 < 4095 by decide) (fun i => if i = 0 then x1 else y1) (fun r => if r = 0 then (b0, o0) else (b1, o1))
        (vals := [_, _]) (fun s hs => ⟨⟨c0, hc0, rfl, show 0 < 2 by decide⟩, ⟨c1, hc1, rfl, show 1 < 2 by decide⟩, trivial⟩) (fun s hs => ⟨show 0 < 2 by decide, ⟨⟨_, hp0, rfl⟩, trivial⟩, show 1 < 2 by decide, ptRow_row rfl hp1 (hs 0 (by decide)) (hs 1 (by decide)) lx1 ly1, trivial⟩) (fun r l hl hr => by cases hr) (fun r _ => (by show (if r = 0 then (b0, o0) else (b1, o1)).1 < _; split; exact lt0; exact lt1)) (fun r q _ _ h => by cases h) ?_ ?_
      · intro s hs hH i bb hb
        obtain ⟨q2, q3, q4, q5, q6, q7⟩ := law7fp (x1 := x1) (y1 := y1) lx1 ly1 hon1 (hs 0 (by decide)) (hs 1 (by decide)) hH
        have := findT_mem (show findT i dec7fp = some bb from hb)
        simp only [dec7fp, List.mem_cons, List.not_mem_nil, or_false, Prod.mk.injEq] at this
        rcases this with ⟨rfl, rfl⟩ | ⟨rfl, rfl⟩ | ⟨rfl, rfl⟩ | ⟨rfl, rfl⟩ | ⟨rfl, rfl⟩ <;> assumption
      · intro s hs hH st' β' a' w' v hv hm hag hr hbe
        obtain ⟨q2, q3, q4, q5, q6, q7⟩ := law7fp (x1 := x1) (y1 := y1) lx1 ly1 hon1 (hs 0 (by decide)) (hs 1 (by decide)) hH
        have hv' : v = .bool (s 7 == 1) := hv.1
        refine ⟨?_, hbe⟩
        rw [hv', q7]
        rfl
  · have lt0 : b0 < w.heap.size := World.block_lt_of_cell? w _ (hp0 0 4 rfl)
    rcases h2 with ⟨b1, o1, c1, rfl, hc1, hp1⟩ | ⟨b1, o1, c1, x1, y1, rfl, hc1, hp1, lx1, ly1, hon1⟩
    · have lt1 : b1 < w.heap.size := World.block_lt_of_cell? w _ hp1
      refine calls_briefR (F := fixN 56 2 dec7pf []) (tabZ_ok xy2_ok) run7pf Try.func7 Try.ntmps7 rfl (by decide +kernel) (by decide +kernel) (by decide +kernel) (show 2 ≤ 56 by decide) (show 2 < 4095 by decide) (fun i => if i = 0 then x0 else y0) (fun r => if r = 0 then (b0, o0) else (b1, o1))
        (vals := [_, _]) (fun s hs => ⟨⟨c0, hc0, rfl, show 0 < 2 by decide⟩, ⟨c1, hc1, rfl, show 1 < 2 by decide⟩, trivial⟩) (fun s hs => ⟨show 0 < 2 by decide, ptRow_row rfl hp0 (hs 0 (by decide)) (hs 1 (by decide)) lx0 ly0, show 1 < 2 by decide, ⟨⟨_, hp1, rfl⟩, trivial⟩, trivial⟩) (fun r l hl hr => by cases hr) (fun r _ => (by show (if r = 0 then (b0, o0) else (b1, o1)).1 < _; split; exact lt0; exact lt1)) (fun r q _ _ h => by cases h) ?_ ?_
      · intro s hs hH i bb hb
        obtain ⟨q2, q3, q4, q5, q6, q7⟩ := law7pf (x0 := x0) (y0 := y0) lx0 ly0 hon0 (hs 0 (by decide)) (hs 1 (by decide)) hH
        have := findT_mem (show findT i dec7pf = some bb from hb)
        simp only [dec7pf, List.mem_cons, List.not_mem_nil, or_false, Prod.mk.injEq] at this
        rcases this with ⟨rfl, rfl⟩ | ⟨rfl, rfl⟩ | ⟨rfl, rfl⟩ | ⟨rfl, rfl⟩ | ⟨rfl, rfl⟩ <;> assumption
      · intro s hs hH st' β' a' w' v hv hm hag hr hbe
        obtain ⟨q2, q3, q4, q5, q6, q7⟩ := law7pf (x0 := x0) (y0 := y0) lx0 ly0 hon0 (hs 0 (by decide)) (hs 1 (by decide)) hH
        have hv' : v = .bool (s 7 == 1) := hv.1
        refine ⟨?_, hbe⟩
        rw [hv', q7]
        rfl
    · have lt1 : b1 < w.heap.size := World.block_lt_of_cell? w _ (hp1 0 4 rfl)
      rcases farOf_cases (addN x0 y0 x1 y1) with ⟨hfar, _⟩ | ⟨hfar, _⟩
      · skip
        refine calls_briefR (F := fixN 56 2 dec7F []) (tabZ_ok xy2_ok) run7F Try.func7 Try.ntmps7 rfl (by decide +kernel) (by decide +kernel) (by decide +kernel) (show 2 ≤ 56 by decide) (show 2 < 4095 by decide) (fun i => if i = 0 then x0 else if i = 1 then y0 else if i = 2 then x1 else y1) (fun r => if r = 0 then (b0, o0) else (b1, o1))
          (vals := [_, _]) (fun s hs => ⟨⟨c0, hc0, rfl, show 0 < 2 by decide⟩, ⟨c1, hc1, rfl, show 1 < 2 by decide⟩, trivial⟩) (fun s hs => ⟨show 0 < 2 by decide, ptRow_row rfl hp0 (hs 0 (by decide)) (hs 1 (by decide)) lx0 ly0, show 1 < 2 by decide, ptRow_row rfl hp1 (hs 2 (by decide)) (hs 3 (by decide)) lx1 ly1, trivial⟩) (fun r l hl hr => by cases hr) (fun r _ => (by show (if r = 0 then (b0, o0) else (b1, o1)).1 < _; split; exact lt0; exact lt1)) (fun r q _ _ h => by cases h) ?_ ?_
        · intro s hs hH i bb hb
          obtain ⟨q4, q5, q6, q7, q8, q9, q10, q11, q12, q13, q14⟩ := law7F (x0 := x0) (y0 := y0) (x1 := x1) (y1 := y1) lx0 ly0 hon0 lx1 ly1 hon1 hfar (hs 0 (by decide)) (hs 1 (by decide)) (hs 2 (by decide)) (hs 3 (by decide)) hH
          have := findT_mem (show findT i dec7F = some bb from hb)
          simp only [dec7F, List.mem_cons, List.not_mem_nil, or_false, Prod.mk.injEq] at this
          rcases this with ⟨rfl, rfl⟩ | ⟨rfl, rfl⟩ | ⟨rfl, rfl⟩ | ⟨rfl, rfl⟩ | ⟨rfl, rfl⟩ | ⟨rfl, rfl⟩ | ⟨rfl, rfl⟩ | ⟨rfl, rfl⟩ | ⟨rfl, rfl⟩ | ⟨rfl, rfl⟩ <;> assumption
        · intro s hs hH st' β' a' w' v hv hm hag hr hbe
          obtain ⟨q4, q5, q6, q7, q8, q9, q10, q11, q12, q13, q14⟩ := law7F (x0 := x0) (y0 := y0) (x1 := x1) (y1 := y1) lx0 ly0 hon0 lx1 ly1 hon1 hfar (hs 0 (by decide)) (hs 1 (by decide)) (hs 2 (by decide)) (hs 3 (by decide)) hH
          have hv' : v = .bool (s 14 == 1) := hv.1
          refine ⟨?_, hbe⟩
          rw [hv', q14]
          rfl
      · skip
        refine calls_briefR (F := fixN 56 2 dec7N []) (tabZ_ok xy2_ok) run7N Try.func7 Try.ntmps7 rfl (by decide +kernel) (by decide +kernel) (by decide +kernel) (show 2 ≤ 56 by decide) (show 2 < 4095 by decide) (fun i => if i = 0 then x0 else if i = 1 then y0 else if i = 2 then x1 else y1) (fun r => if r = 0 then (b0, o0) else (b1, o1))
          (vals := [_, _]) (fun s hs => ⟨⟨c0, hc0, rfl, show 0 < 2 by decide⟩, ⟨c1, hc1, rfl, show 1 < 2 by decide⟩, trivial⟩) (fun s hs => ⟨show 0 < 2 by decide, ptRow_row rfl hp0 (hs 0 (by decide)) (hs 1 (by decide)) lx0 ly0, show 1 < 2 by decide, ptRow_row rfl hp1 (hs 2 (by decide)) (hs 3 (by decide)) lx1 ly1, trivial⟩) (fun r l hl hr => by cases hr) (fun r _ => (by show (if r = 0 then (b0, o0) else (b1, o1)).1 < _; split; exact lt0; exact lt1)) (fun r q _ _ h => by cases h) ?_ ?_
        · intro s hs hH i bb hb
          obtain ⟨q4, q5, q6, q7, q8, q9, q10, q13, q14, q15, q18, q19, q20⟩ := law7N (x0 := x0) (y0 := y0) (x1 := x1) (y1 := y1) lx0 ly0 hon0 lx1 ly1 hon1 hfar (hs 0 (by decide)) (hs 1 (by decide)) (hs 2 (by decide)) (hs 3 (by decide)) hH
          have := findT_mem (show findT i dec7N = some bb from hb)
          simp only [dec7N, List.mem_cons, List.not_mem_nil, or_false, Prod.mk.injEq] at this
          rcases this with ⟨rfl, rfl⟩ | ⟨rfl, rfl⟩ | ⟨rfl, rfl⟩ | ⟨rfl, rfl⟩ | ⟨rfl, rfl⟩ | ⟨rfl, rfl⟩ | ⟨rfl, rfl⟩ | ⟨rfl, rfl⟩ | ⟨rfl, rfl⟩ | ⟨rfl, rfl⟩ | ⟨rfl, rfl⟩ | ⟨rfl, rfl⟩ <;> assumption
        · intro s hs hH st' β' a' w' v hv hm hag hr hbe
          obtain ⟨q4, q5, q6, q7, q8, q9, q10, q13, q14, q15, q18, q19, q20⟩ := law7N (x0 := x0) (y0 := y0) (x1 := x1) (y1 := y1) lx0 ly0 hon0 lx1 ly1 hon1 hfar (hs 0 (by decide)) (hs 1 (by decide)) (hs 2 (by decide)) (hs 3 (by decide)) hH
          have hv' : v = .bool (s 20 == 1) := hv.1
          refine ⟨?_, hbe⟩
          rw [hv', q20]
          rfl
theorem law7_all {w : World} {v v' : Value} {b o n u d f b' o' n' u' d' f' : Nat} (h : Sl w v b o n u d f) (h' : Sl w v' b' o' n' u' d' f') : Law 7 w [v, v'] := by
  by_cases hb : 2147483647 < n ∨ 2147483647 < n' ∨ f = 0 ∨ f' = 0
  · exact law_two xy2_ok run7b1 run7b2 run7b3 run7b4 Try.func7 Try.ntmps7 (by decide) h h' hb
  · have hf : f = 1 := by have := h.flag.le; omega
    have hf' : f' = 1 := by have := h'.flag.le; omega
    subst hf
    subst hf'
    exact law7_good h.point h'.point
end P224
