/- Law ScalarMult. PRINTED BY A PROGRAM OF MY OWN (gen/mkL14.py). -/
import Derived.Test.YtccmmkgiamcgeaaGZA
set_option linter.all false
namespace P224
open Go Go.RowKit Go.Proofs
set_option maxRecDepth 100000
set_option linter.unusedVariables false
theorem run14b1 : briefR (tabZ xt14) Try.f14 [] (runF (tabZ xt14) (fixN 65 1 [(32, true)] [(0, (0, 3))]) 3000 Try.f14 (startSt (.one (.sy 0 0) :: [.agg (numsFrom .u8 4 28)]) [] 32 1)) = some ⟨.ret, 33, [lenE 0], [], [.one (.lit (.bool true))], []⟩ := by kernel_rfl
theorem run14b2 : briefR (tabZ xt14) Try.f14 [] (runF (tabZ xt14) (fixN 65 1 [(32, false), (3, false), (33, true)] [(0, (0, 3))]) 3000 Try.f14 (startSt (.one (.sy 0 0) :: [.agg (numsFrom .u8 4 28)]) [] 32 1)) = some ⟨.ret, 34, [.feq (.v 3) (.c 0), lenE 0], [], [.one (.lit (.bool true))], []⟩ := by kernel_rfl
def ex14f : List Ex := [
.op 19 [.c 0, .c 0],
.op 19 [.c 0, .c 0],
.op 2 (vsF 0),
.op 2 (vsF 0)]
def dec14f : List (Nat × Bool) := [(31, true)]
def st14f : St := startSt [.one (.sv 0 0 1 28), .agg (numsFrom .u8 0 28)] [(0, [.lit (.int .u8 0)])] 29 1
def br14f : BriefR := ⟨.ret, 33, ex14f, [], [.one (.bl 32)], []⟩
theorem run14f : briefR (tabZ xt14) Try.f14 [] (runF (tabZ xt14) (fixN 65 1 dec14f []) 3000 Try.f14 st14f) = some br14f := by kernel_rfl
theorem law14f {s : Nums}  {c0 : Nat} {K0 : Nat} (q28 : s 28 = c0) (qK0 : ofBytes ((List.range 28).map fun i => s (0 + i)) = K0)  (h : Holds s 33 ex14f) : s 31 = 1 ∧ s 32 = 1 := by
  obtain ⟨h32, h31, h30, h29, _⟩ := h
  have q29 : s 29 = K0 := (show s 29 = ofBytes ((List.range 28).map fun i => s (0 + i)) from h29).trans qK0
  have q30 : s 30 = K0 := (show s 30 = ofBytes ((List.range 28).map fun i => s (0 + i)) from h30).trans qK0
  have q31 : s 31 = 1 := (show s 31 = opVal 19 ([0] ++ [0]) from h31).trans (opVal_19 [0] [0] rfl)
  have q32 : s 32 = 1 := (show s 32 = opVal 19 ([0] ++ [0]) from h32).trans (opVal_19 [0] [0] rfl)
  exact ⟨q31, q32⟩
def ex14a : List Ex := [
.op 19 [.c 0, .c 0],
.op 19 [.c 0, .c 0],
.op 25 [(.v 0), (.v 1), (.v 42)],
.op 2 (vsF 2),
.op 20 [(.v 0), (.v 1)],
.op 4 [(.v 1), (.c pq)],
.op 4 [(.v 0), (.c pq)],
.op 25 [(.v 0), (.v 1), (.v 37)],
.op 2 (vsF 2),
.op 20 [(.v 0), (.v 1)],
.op 25 [(.v 0), (.v 1), (.v 34)],
.op 2 (vsF 2),
.op 20 [(.v 0), (.v 1)],
.feq (.v 31) (.c 0),
.op 20 [(.v 0), (.v 1)]]
def dec14a : List (Nat × Bool) := [(31, true), (32, false), (33, true), (35, true), (36, true), (38, true), (39, true), (40, true), (41, true), (43, true), (44, true)]
def st14a : St := startSt [.one (.sv 0 0 57 30), .agg (numsFrom .u8 2 28)] [(0, ptRow 0 1)] 31 1
def br14a : BriefR := ⟨.ret, 46, ex14a, [], [.one (.bl 45)], []⟩
theorem run14a : briefR (tabZ xt14) Try.f14 [] (runF (tabZ xt14) (fixN 65 1 dec14a []) 3000 Try.f14 st14a) = some br14a := by kernel_rfl
theorem law14a {s : Nums}  {c0 : Nat} {K0 : Nat} {x0 y0 : Nat} (lx0 : x0 < pq) (ly0 : y0 < pq) (hon0 : onN x0 y0 = 1) (f1 : farOf (mulN x0 y0 K0) = 1) (q0 : s 0 = x0) (q1 : s 1 = y0) (q30 : s 30 = c0) (qK0 : ofBytes ((List.range 28).map fun i => s (2 + i)) = K0)  (h : Holds s 46 ex14a) : s 31 = 1 ∧ s 32 = 0 ∧ s 33 = 1 ∧ s 35 = 1 ∧ s 36 = 1 ∧ s 38 = 1 ∧ s 39 = 1 ∧ s 40 = 1 ∧ s 41 = 1 ∧ s 43 = 1 ∧ s 44 = 1 ∧ s 45 = 1 := by
  obtain ⟨h45, h44, h43, h42, h41, h40, h39, h38, h37, h36, h35, h34, h33, h32, h31, _⟩ := h
  have q31 : s 31 = 1 := ((show s 31 = onN (s 0) (s 1) from h31).trans (by rw [q0, q1])).trans hon0
  have q32 : s 32 = 0 := (show s 32 = if s 31 = 0 then 1 else 0 from h32).trans (if_neg (by rw [q31]; decide))
  have q33 : s 33 = 1 := ((show s 33 = onN (s 0) (s 1) from h33).trans (by rw [q0, q1])).trans hon0
  have q34 : s 34 = K0 := (show s 34 = ofBytes ((List.range 28).map fun i => s (2 + i)) from h34).trans qK0
  have q35 : s 35 = 1 := ((show s 35 = farOf (mulN (s 0) (s 1) (s 34)) from h35).trans (by rw [q0, q1, q34])).trans f1
  have q36 : s 36 = 1 := ((show s 36 = onN (s 0) (s 1) from h36).trans (by rw [q0, q1])).trans hon0
  have q37 : s 37 = K0 := (show s 37 = ofBytes ((List.range 28).map fun i => s (2 + i)) from h37).trans qK0
  have q38 : s 38 = 1 := ((show s 38 = farOf (mulN (s 0) (s 1) (s 37)) from h38).trans (by rw [q0, q1, q37])).trans f1
  have q39 : s 39 = 1 := (show s 39 = if s 0 < pq then 1 else 0 from h39).trans (if_pos (by rw [q0]; exact lx0))
  have q40 : s 40 = 1 := (show s 40 = if s 1 < pq then 1 else 0 from h40).trans (if_pos (by rw [q1]; exact ly0))
  have q41 : s 41 = 1 := ((show s 41 = onN (s 0) (s 1) from h41).trans (by rw [q0, q1])).trans hon0
  have q42 : s 42 = K0 := (show s 42 = ofBytes ((List.range 28).map fun i => s (2 + i)) from h42).trans qK0
  have q43 : s 43 = 1 := ((show s 43 = farOf (mulN (s 0) (s 1) (s 42)) from h43).trans (by rw [q0, q1, q42])).trans f1
  have q44 : s 44 = 1 := (show s 44 = opVal 19 ([0] ++ [0]) from h44).trans (opVal_19 [0] [0] rfl)
  have q45 : s 45 = 1 := (show s 45 = opVal 19 ([0] ++ [0]) from h45).trans (opVal_19 [0] [0] rfl)
  exact ⟨q31, q32, q33, q35, q36, q38, q39, q40, q41, q43, q44, q45⟩
def ex14b : List Ex := [
.op 19 ((Wd.c 4 :: (bs28 41 ++ bs28 42)) ++ (Wd.c 4 :: (bs28 36 ++ bs28 37))),
.op 19 ((Wd.c 4 :: (bs28 36 ++ bs28 37)) ++ (Wd.c 4 :: (bs28 48 ++ bs28 49))),
.op 4 [(.v 49), (.c pq)],
.op 4 [(.v 48), (.c pq)],
.op 27 [(.v 0), (.v 1), (.v 46)],
.op 26 [(.v 0), (.v 1), (.v 46)],
.op 25 [(.v 0), (.v 1), (.v 46)],
.op 2 (vsF 2),
.op 20 [(.v 0), (.v 1)],
.op 4 [(.v 1), (.c pq)],
.op 4 [(.v 0), (.c pq)],
.op 27 [(.v 0), (.v 1), (.v 39)],
.op 26 [(.v 0), (.v 1), (.v 39)],
.op 25 [(.v 0), (.v 1), (.v 39)],
.op 2 (vsF 2),
.op 20 [(.v 0), (.v 1)],
.op 27 [(.v 0), (.v 1), (.v 34)],
.op 26 [(.v 0), (.v 1), (.v 34)],
.op 25 [(.v 0), (.v 1), (.v 34)],
.op 2 (vsF 2),
.op 20 [(.v 0), (.v 1)],
.feq (.v 31) (.c 0),
.op 20 [(.v 0), (.v 1)]]
def dec14b : List (Nat × Bool) := [(31, true), (32, false), (33, true), (35, false), (38, true), (40, false), (43, true), (44, true), (45, true), (47, false), (50, true), (51, true), (52, true)]
def st14b : St := startSt [.one (.sv 0 0 57 30), .agg (numsFrom .u8 2 28)] [(0, ptRow 0 1)] 31 1
def br14b : BriefR := ⟨.ret, 54, ex14b, [], [.one (.bl 53)], []⟩
theorem run14b : briefR (tabZ xt14) Try.f14 [] (runF (tabZ xt14) (fixN 65 1 dec14b []) 3000 Try.f14 st14b) = some br14b := by kernel_rfl
theorem law14b {s : Nums}  {c0 : Nat} {K0 : Nat} {x0 y0 : Nat} (lx0 : x0 < pq) (ly0 : y0 < pq) (hon0 : onN x0 y0 = 1) {X1 Y1 : Nat} (lX1 : X1 < pq) (lY1 : Y1 < pq) (on1 : onN X1 Y1 = 1) (f1 : farOf (mulN x0 y0 K0) = 0) (gx1 : xOf (mulN x0 y0 K0) = X1) (gy1 : yOf (mulN x0 y0 K0) = Y1) (q0 : s 0 = x0) (q1 : s 1 = y0) (q30 : s 30 = c0) (qK0 : ofBytes ((List.range 28).map fun i => s (2 + i)) = K0)  (h : Holds s 54 ex14b) : s 31 = 1 ∧ s 32 = 0 ∧ s 33 = 1 ∧ s 35 = 0 ∧ s 38 = 1 ∧ s 40 = 0 ∧ s 43 = 1 ∧ s 44 = 1 ∧ s 45 = 1 ∧ s 47 = 0 ∧ s 50 = 1 ∧ s 51 = 1 ∧ s 52 = 1 ∧ s 53 = 1 := by
  obtain ⟨h53, h52, h51, h50, h49, h48, h47, h46, h45, h44, h43, h42, h41, h40, h39, h38, h37, h36, h35, h34, h33, h32, h31, _⟩ := h
  have q31 : s 31 = 1 := ((show s 31 = onN (s 0) (s 1) from h31).trans (by rw [q0, q1])).trans hon0
  have q32 : s 32 = 0 := (show s 32 = if s 31 = 0 then 1 else 0 from h32).trans (if_neg (by rw [q31]; decide))
  have q33 : s 33 = 1 := ((show s 33 = onN (s 0) (s 1) from h33).trans (by rw [q0, q1])).trans hon0
  have q34 : s 34 = K0 := (show s 34 = ofBytes ((List.range 28).map fun i => s (2 + i)) from h34).trans qK0
  have q35 : s 35 = 0 := ((show s 35 = farOf (mulN (s 0) (s 1) (s 34)) from h35).trans (by rw [q0, q1, q34])).trans f1
  have q36 : s 36 = X1 := ((show s 36 = xOf (mulN (s 0) (s 1) (s 34)) from h36).trans (by rw [q0, q1, q34])).trans gx1
  have q37 : s 37 = Y1 := ((show s 37 = yOf (mulN (s 0) (s 1) (s 34)) from h37).trans (by rw [q0, q1, q34])).trans gy1
  have q38 : s 38 = 1 := ((show s 38 = onN (s 0) (s 1) from h38).trans (by rw [q0, q1])).trans hon0
  have q39 : s 39 = K0 := (show s 39 = ofBytes ((List.range 28).map fun i => s (2 + i)) from h39).trans qK0
  have q40 : s 40 = 0 := ((show s 40 = farOf (mulN (s 0) (s 1) (s 39)) from h40).trans (by rw [q0, q1, q39])).trans f1
  have q41 : s 41 = X1 := ((show s 41 = xOf (mulN (s 0) (s 1) (s 39)) from h41).trans (by rw [q0, q1, q39])).trans gx1
  have q42 : s 42 = Y1 := ((show s 42 = yOf (mulN (s 0) (s 1) (s 39)) from h42).trans (by rw [q0, q1, q39])).trans gy1
  have q43 : s 43 = 1 := (show s 43 = if s 0 < pq then 1 else 0 from h43).trans (if_pos (by rw [q0]; exact lx0))
  have q44 : s 44 = 1 := (show s 44 = if s 1 < pq then 1 else 0 from h44).trans (if_pos (by rw [q1]; exact ly0))
  have q45 : s 45 = 1 := ((show s 45 = onN (s 0) (s 1) from h45).trans (by rw [q0, q1])).trans hon0
  have q46 : s 46 = K0 := (show s 46 = ofBytes ((List.range 28).map fun i => s (2 + i)) from h46).trans qK0
  have q47 : s 47 = 0 := ((show s 47 = farOf (mulN (s 0) (s 1) (s 46)) from h47).trans (by rw [q0, q1, q46])).trans f1
  have q48 : s 48 = X1 := ((show s 48 = xOf (mulN (s 0) (s 1) (s 46)) from h48).trans (by rw [q0, q1, q46])).trans gx1
  have q49 : s 49 = Y1 := ((show s 49 = yOf (mulN (s 0) (s 1) (s 46)) from h49).trans (by rw [q0, q1, q46])).trans gy1
  have q50 : s 50 = 1 := (show s 50 = if s 48 < pq then 1 else 0 from h50).trans (if_pos (by rw [q48]; exact lX1))
  have q51 : s 51 = 1 := (show s 51 = if s 49 < pq then 1 else 0 from h51).trans (if_pos (by rw [q49]; exact lY1))
  have q52 : s 52 = 1 := same_ptG h52 (by rw [q36, q48]) (by rw [q37, q49])
  have q53 : s 53 = 1 := same_ptG h53 (by rw [q41, q36]) (by rw [q42, q37])
  exact ⟨q31, q32, q33, q35, q38, q40, q43, q44, q45, q47, q50, q51, q52, q53⟩
theorem law14_good {w : World} {v : Value} (h1 : PtOf w v) {k0 : List Nat} (hk0 : Is28 k0) : Law 14 w [v, arrV k0] := by
  rcases h1 with ⟨b0, o0, c0, rfl, hc0, hp0⟩ | ⟨b0, o0, c0, x0, y0, rfl, hc0, hp0, lx0, ly0, hon0⟩
  · have lt0 : b0 < w.heap.size := World.block_lt_of_cell? w _ hp0
    let S0 : Nums := fun i =>  if i < 28 then k0.getD (i - 0) 0 else  c0
    have ak0 : ∀ s : Nums, (∀ i, i < 29 → s i = S0 i) → ∀ m, m < 28 → s (0 + m) = k0.getD m 0 := fun s hs m hm => by
      rw [hs (0 + m) (by omega)]
      show ( if 0 + m < 28 then k0.getD (0 + m - 0) 0 else  c0) = _
      rw [if_pos (by omega), show 0 + m - 0 = m by omega]
    refine calls_briefR (F := fixN 65 1 dec14f []) (tabZ_ok xt14_ok) run14f Try.func14 Try.ntmps14 rfl (by decide +kernel) (by decide +kernel) (by decide +kernel) (show 2 ≤ 65 by decide) (show 2 < 4095 by decide) S0 (fun r =>  (b0, o0))
      (vals := [_, arrV k0]) (fun s hs => ⟨⟨by rw [hs 28 (by decide)]; rfl, by rw [hs 28 (by decide)]; exact hc0, show 0 < 1 by decide⟩, agg_rep hk0 (ak0 s hs), trivial⟩) (fun s hs => ⟨show 0 < 1 by decide, ⟨⟨_, hp0, rfl⟩, trivial⟩, trivial⟩) (fun r l hl hr => by cases hr) (fun r _ => lt0) (fun r q _ _ h => by cases h) ?_ ?_
    · intro s hs hH i bb hb
      obtain ⟨q31, q32⟩ := law14f (c0 := c0) (K0 := ofBytes k0)  (hs 28 (by decide)) (kb_of hk0 (ak0 s hs)) hH
      have := findT_mem (show findT i dec14f = some bb from hb)
      simp only [dec14f, List.mem_cons, List.not_mem_nil, or_false, Prod.mk.injEq] at this
      obtain ⟨rfl, rfl⟩ := this
      assumption
    · intro s hs hH st' β' a' w' v hv hm hag hr hbe
      obtain ⟨q31, q32⟩ := law14f (c0 := c0) (K0 := ofBytes k0)  (hs 28 (by decide)) (kb_of hk0 (ak0 s hs)) hH
      have hv' : v = .bool (s 32 == 1) := hv.1
      refine ⟨?_, hbe⟩
      rw [hv', q32]
      rfl
  · have lt0 : b0 < w.heap.size := World.block_lt_of_cell? w _ (hp0 0 4 rfl)
    rcases mul_casesG hon0 (ofBytes k0) with ⟨f1, e1⟩ | ⟨X1, Y1, f1, gx1, gy1, lX1, lY1, on1, e1⟩
    · skip
      let S0 : Nums := fun i => if i = 0 then x0 else if i = 1 then y0 else if i < 30 then k0.getD (i - 2) 0 else  c0
      have ak0 : ∀ s : Nums, (∀ i, i < 31 → s i = S0 i) → ∀ m, m < 28 → s (2 + m) = k0.getD m 0 := fun s hs m hm => by
        rw [hs (2 + m) (by omega)]
        show (if 2 + m = 0 then x0 else if 2 + m = 1 then y0 else if 2 + m < 30 then k0.getD (2 + m - 2) 0 else  c0) = _
        rw [if_neg (by omega), if_neg (by omega), if_pos (by omega), show 2 + m - 2 = m by omega]
      refine calls_briefR (F := fixN 65 1 dec14a []) (tabZ_ok xt14_ok) run14a Try.func14 Try.ntmps14 rfl (by decide +kernel) (by decide +kernel) (by decide +kernel) (show 2 ≤ 65 by decide) (show 2 < 4095 by decide) S0 (fun r =>  (b0, o0))
        (vals := [_, arrV k0]) (fun s hs => ⟨⟨by rw [hs 30 (by decide)]; rfl, by rw [hs 30 (by decide)]; exact hc0, show 0 < 1 by decide⟩, agg_rep hk0 (ak0 s hs), trivial⟩) (fun s hs => ⟨show 0 < 1 by decide, ptRow_row rfl hp0 (hs 0 (by decide)) (hs 1 (by decide)) lx0 ly0, trivial⟩) (fun r l hl hr => by cases hr) (fun r _ => lt0) (fun r q _ _ h => by cases h) ?_ ?_
      · intro s hs hH i bb hb
        obtain ⟨q31, q32, q33, q35, q36, q38, q39, q40, q41, q43, q44, q45⟩ := law14a (c0 := c0) (K0 := ofBytes k0) (x0 := x0) (y0 := y0) lx0 ly0 hon0 f1 (hs 0 (by decide)) (hs 1 (by decide)) (hs 30 (by decide)) (kb_of hk0 (ak0 s hs)) hH
        have := findT_mem (show findT i dec14a = some bb from hb)
        simp only [dec14a, List.mem_cons, List.not_mem_nil, or_false, Prod.mk.injEq] at this
        rcases this with ⟨rfl, rfl⟩ | ⟨rfl, rfl⟩ | ⟨rfl, rfl⟩ | ⟨rfl, rfl⟩ | ⟨rfl, rfl⟩ | ⟨rfl, rfl⟩ | ⟨rfl, rfl⟩ | ⟨rfl, rfl⟩ | ⟨rfl, rfl⟩ | ⟨rfl, rfl⟩ | ⟨rfl, rfl⟩ <;> assumption
      · intro s hs hH st' β' a' w' v hv hm hag hr hbe
        obtain ⟨q31, q32, q33, q35, q36, q38, q39, q40, q41, q43, q44, q45⟩ := law14a (c0 := c0) (K0 := ofBytes k0) (x0 := x0) (y0 := y0) lx0 ly0 hon0 f1 (hs 0 (by decide)) (hs 1 (by decide)) (hs 30 (by decide)) (kb_of hk0 (ak0 s hs)) hH
        have hv' : v = .bool (s 45 == 1) := hv.1
        refine ⟨?_, hbe⟩
        rw [hv', q45]
        rfl
    · skip
      let S0 : Nums := fun i => if i = 0 then x0 else if i = 1 then y0 else if i < 30 then k0.getD (i - 2) 0 else  c0
      have ak0 : ∀ s : Nums, (∀ i, i < 31 → s i = S0 i) → ∀ m, m < 28 → s (2 + m) = k0.getD m 0 := fun s hs m hm => by
        rw [hs (2 + m) (by omega)]
        show (if 2 + m = 0 then x0 else if 2 + m = 1 then y0 else if 2 + m < 30 then k0.getD (2 + m - 2) 0 else  c0) = _
        rw [if_neg (by omega), if_neg (by omega), if_pos (by omega), show 2 + m - 2 = m by omega]
      refine calls_briefR (F := fixN 65 1 dec14b []) (tabZ_ok xt14_ok) run14b Try.func14 Try.ntmps14 rfl (by decide +kernel) (by decide +kernel) (by decide +kernel) (show 2 ≤ 65 by decide) (show 2 < 4095 by decide) S0 (fun r =>  (b0, o0))
        (vals := [_, arrV k0]) (fun s hs => ⟨⟨by rw [hs 30 (by decide)]; rfl, by rw [hs 30 (by decide)]; exact hc0, show 0 < 1 by decide⟩, agg_rep hk0 (ak0 s hs), trivial⟩) (fun s hs => ⟨show 0 < 1 by decide, ptRow_row rfl hp0 (hs 0 (by decide)) (hs 1 (by decide)) lx0 ly0, trivial⟩) (fun r l hl hr => by cases hr) (fun r _ => lt0) (fun r q _ _ h => by cases h) ?_ ?_
      · intro s hs hH i bb hb
        obtain ⟨q31, q32, q33, q35, q38, q40, q43, q44, q45, q47, q50, q51, q52, q53⟩ := law14b (c0 := c0) (K0 := ofBytes k0) (x0 := x0) (y0 := y0) lx0 ly0 hon0 lX1 lY1 on1 f1 gx1 gy1 (hs 0 (by decide)) (hs 1 (by decide)) (hs 30 (by decide)) (kb_of hk0 (ak0 s hs)) hH
        have := findT_mem (show findT i dec14b = some bb from hb)
        simp only [dec14b, List.mem_cons, List.not_mem_nil, or_false, Prod.mk.injEq] at this
        rcases this with ⟨rfl, rfl⟩ | ⟨rfl, rfl⟩ | ⟨rfl, rfl⟩ | ⟨rfl, rfl⟩ | ⟨rfl, rfl⟩ | ⟨rfl, rfl⟩ | ⟨rfl, rfl⟩ | ⟨rfl, rfl⟩ | ⟨rfl, rfl⟩ | ⟨rfl, rfl⟩ | ⟨rfl, rfl⟩ | ⟨rfl, rfl⟩ | ⟨rfl, rfl⟩ <;> assumption
      · intro s hs hH st' β' a' w' v hv hm hag hr hbe
        obtain ⟨q31, q32, q33, q35, q38, q40, q43, q44, q45, q47, q50, q51, q52, q53⟩ := law14b (c0 := c0) (K0 := ofBytes k0) (x0 := x0) (y0 := y0) lx0 ly0 hon0 lX1 lY1 on1 f1 gx1 gy1 (hs 0 (by decide)) (hs 1 (by decide)) (hs 30 (by decide)) (kb_of hk0 (ak0 s hs)) hH
        have hv' : v = .bool (s 53 == 1) := hv.1
        refine ⟨?_, hbe⟩
        rw [hv', q53]
        rfl
theorem law14_all {w : World} {v : Value} {b o n u d f : Nat} (h : Sl w v b o n u d f) {k0 : List Nat} (hk0 : Is28 k0) : Law 14 w (v :: [arrV k0]) := by
  by_cases hb : 2147483647 < n ∨ f = 0
  · exact law_one_x (tabZ_ok xt14_ok) (n0 := 32) (vs := [arrV k0]) (by decide) (fun i => if i < 32 then k0.getD (i - 4) 0 else 0) run14b1 run14b2 Try.func14 Try.ntmps14 (by decide +kernel) (by decide +kernel) (by decide) (by decide) (fun s β hs => ⟨agg_rep hk0 (fun m hm => by
      rw [hs (4 + m) (by omega) (by omega)]
      show (if 4 + m < 32 then k0.getD (4 + m - 4) 0 else 0) = _
      rw [if_pos (by omega), show 4 + m - 4 = m by omega]), trivial⟩) h hb
  · have hf : f = 1 := by have := h.flag.le; omega
    subst hf
    exact law14_good h.point hk0
end P224
