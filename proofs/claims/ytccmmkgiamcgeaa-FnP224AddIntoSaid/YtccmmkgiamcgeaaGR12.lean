/- The laws' table, with all of the package's sums by contract. -/
import Derived.Test.YtccmmkgiamcgeaaGR10
set_option linter.all false
namespace P224
open Go Go.RowKit Go.Proofs
set_option maxRecDepth 100000
set_option linter.unusedVariables false
noncomputable def xu0 : List (Nat × X) := (34, x34) :: (39, x39) :: xw0
theorem xu0_ok : XsOk xu0 := xcons_ok x34_ok (xcons_ok x39_ok xw0_ok)
noncomputable def xu1 : List (Nat × X) := with1Q (with1Q (with1Q (with1Q xu0 37 Try.f37) 33 Try.f33) 40 Try.f40) 38 Try.f38
theorem xu1_ok : XsOk xu1 := with1Q_ok (with1Q_ok (with1Q_ok (with1Q_ok xu0_ok Try.func37 (by kernel_rfl)) Try.func33 (by kernel_rfl)) Try.func40 (by kernel_rfl)) Try.func38 (by kernel_rfl)

end P224
/- Laws with two slices of bytes, where one is no point or too long: over any table; with a byte ahead. -/
namespace P224
open Go Go.RowKit Go.Proofs
set_option maxRecDepth 100000
set_option linter.unusedVariables false
def stSyB : St := startSt [.one (.num .u8 8), .one (.sy 0 0), .one (.sy 1 4)] [] 9 2
theorem law_twoT {g : FuncId} {fn : Func} {nt : Nat} {T : Tab} (hT : T.Ok Try.prog)
    (run1 : briefR (T) fn [] (runF (T) (fixN nt 2 [(8, true)] npSy2) 3000 fn stSy2) = some ⟨.ret, 9, [lenE 0], [], [.one (.lit (.bool true))], []⟩)
    (run2 : briefR (T) fn [] (runF (T) (fixN nt 2 [(8, false), (9, true)] npSy2) 3000 fn stSy2) = some ⟨.ret, 10, [lenE 4, lenE 0], [], [.one (.lit (.bool true))], []⟩)
    (run3 : briefR (T) fn [] (runF (T) (fixN nt 2 [(8, false), (9, false), (10, true)] npSy2) 3000 fn stSy2) = some ⟨.ret, 11, [.feq (.v 3) (.c 0), lenE 4, lenE 0], [], [.one (.lit (.bool true))], []⟩)
    (run4 : briefR (T) fn [] (runF (T) (fixN nt 2 [(8, false), (9, false), (10, false), (11, true)] npSy2) 3000 fn stSy2) = some ⟨.ret, 12, [.feq (.v 7) (.c 0), .feq (.v 3) (.c 0), lenE 4, lenE 0], [], [.one (.lit (.bool true))], []⟩)
    (hf : Try.prog.funcs[g]? = some fn) (hnt : fn.ntmps = nt) (h1 : 2 ≤ nt) {w : World} {v v' : Value} {b o n u d f b' o' n' u' d' f' : Nat} (h : Sl w v b o n u d f) (h' : Sl w v' b' o' n' u' d' f')
    (hbad : 2147483647 < n ∨ 2147483647 < n' ∨ f = 0 ∨ f' = 0) : Law g w [v, v'] := by
  let s0 : Nums := fun i => if i = 0 then n else if i = 1 then u else if i = 2 then d else if i = 3 then f else if i = 4 then n' else if i = 5 then u' else if i = 6 then d' else f'
  let β : Places := fun r => if r = 0 then (b, o) else (b', o')
  have hargs : ∀ s : Nums, (∀ i, i < 8 → s i = s0 i) → ArgsOk s β 2 [.one (.sy 0 0), .one (.sy 1 4)] [v, v'] := fun s hs =>
    ⟨h.rep rfl (by decide) (hs 0 (by decide)) (hs 1 (by decide)) (hs 2 (by decide)), h'.rep rfl (by decide) (hs 4 (by decide)) (hs 5 (by decide)) (hs 6 (by decide)), trivial⟩
  have hold : ∀ r, r < 2 → (β r).1 < w.heap.size := fun r _ => by
    show (if r = 0 then (b, o) else (b', o')).1 < _
    split
    · exact h.lt
    · exact h'.lt
  have hnp : ∀ s : Nums, (∀ i, i < 8 → s i = s0 i) → ∀ r i j, findT r npSy2 = some (i, j) → r < 2 ∧ Flag w (β r) (s i) (s j) := fun s hs r i j hh => by
    have := findT_mem hh
    simp only [npSy2, List.mem_cons, List.not_mem_nil, or_false, Prod.mk.injEq] at this
    rcases this with ⟨rfl, rfl, rfl⟩ | ⟨rfl, rfl, rfl⟩
    · exact ⟨by decide, h.np rfl (hs 0 (by decide)) (hs 3 (by decide))⟩
    · exact ⟨by decide, h'.np rfl (hs 4 (by decide)) (hs 7 (by decide))⟩
  by_cases c1 : 2147483647 < n
  · refine calls_briefR (F := fixN nt 2 [(8, true)] npSy2) hT run1 hf hnt rfl (by decide +kernel) (by decide +kernel) (by decide +kernel) h1 (show 2 < 4095 by decide) s0 β
      (vals := [v, v']) hargs (fun s hs => trivial) (fun r l hl hr => by cases hr) hold (fun r q _ _ h => by cases h) ?_ ?_ hnp
    · intro s hs hH i bb hb
      have e8 := len_gt hH.1 (hs 0 (by decide)) h.n63
      rw [if_pos (show 2147483647 < s0 0 from c1)] at e8
      obtain ⟨rfl, rfl⟩ := dec1 hb
      exact e8
    · intro s hs hH st' β' a' w' v' hv' hm hag hr hbe
      have hv2 : v' = .bool true := hv'
      exact ⟨by rw [hv2], hbe⟩
  by_cases c2 : 2147483647 < n'
  · refine calls_briefR (F := fixN nt 2 [(8, false), (9, true)] npSy2) hT run2 hf hnt rfl (by decide +kernel) (by decide +kernel) (by decide +kernel) h1 (show 2 < 4095 by decide) s0 β
      (vals := [v, v']) hargs (fun s hs => trivial) (fun r l hl hr => by cases hr) hold (fun r q _ _ h => by cases h) ?_ ?_ hnp
    · intro s hs hH i bb hb
      have e8 := len_gt hH.2.1 (hs 0 (by decide)) h.n63
      have e9 := len_gt hH.1 (hs 4 (by decide)) h'.n63
      rw [if_neg (show ¬ 2147483647 < s0 0 from c1)] at e8
      rw [if_pos (show 2147483647 < s0 4 from c2)] at e9
      rcases dec2 hb with ⟨rfl, rfl⟩ | ⟨rfl, rfl⟩
      · exact e8
      · exact e9
    · intro s hs hH st' β' a' w' v' hv' hm hag hr hbe
      have hv2 : v' = .bool true := hv'
      exact ⟨by rw [hv2], hbe⟩
  by_cases c3 : f = 0
  · refine calls_briefR (F := fixN nt 2 [(8, false), (9, false), (10, true)] npSy2) hT run3 hf hnt rfl (by decide +kernel) (by decide +kernel) (by decide +kernel) h1 (show 2 < 4095 by decide) s0 β
      (vals := [v, v']) hargs (fun s hs => trivial) (fun r l hl hr => by cases hr) hold (fun r q _ _ h => by cases h) ?_ ?_ hnp
    · intro s hs hH i bb hb
      have e8 := len_gt hH.2.2.1 (hs 0 (by decide)) h.n63
      have e9 := len_gt hH.2.1 (hs 4 (by decide)) h'.n63
      rw [if_neg (show ¬ 2147483647 < s0 0 from c1)] at e8
      rw [if_neg (show ¬ 2147483647 < s0 4 from c2)] at e9
      have e10 : s 10 = if s 3 = 0 then 1 else 0 := hH.1
      rw [if_pos ((hs 3 (by decide)).trans c3)] at e10
      have := findT_mem (show findT i [(8, false), (9, false), (10, true)] = some bb from hb)
      simp only [List.mem_cons, List.not_mem_nil, or_false, Prod.mk.injEq] at this
      rcases this with ⟨rfl, rfl⟩ | ⟨rfl, rfl⟩ | ⟨rfl, rfl⟩
      · exact e8
      · exact e9
      · exact e10
    · intro s hs hH st' β' a' w' v' hv' hm hag hr hbe
      have hv2 : v' = .bool true := hv'
      exact ⟨by rw [hv2], hbe⟩
  · have c4 : f' = 0 := by omega
    refine calls_briefR (F := fixN nt 2 [(8, false), (9, false), (10, false), (11, true)] npSy2) hT run4 hf hnt rfl (by decide +kernel) (by decide +kernel) (by decide +kernel) h1 (show 2 < 4095 by decide) s0 β
      (vals := [v, v']) hargs (fun s hs => trivial) (fun r l hl hr => by cases hr) hold (fun r q _ _ h => by cases h) ?_ ?_ hnp
    · intro s hs hH i bb hb
      have e8 := len_gt hH.2.2.2.1 (hs 0 (by decide)) h.n63
      have e9 := len_gt hH.2.2.1 (hs 4 (by decide)) h'.n63
      rw [if_neg (show ¬ 2147483647 < s0 0 from c1)] at e8
      rw [if_neg (show ¬ 2147483647 < s0 4 from c2)] at e9
      have e10 : s 10 = if s 3 = 0 then 1 else 0 := hH.2.1
      have e3 : s 3 = f := hs 3 (by decide)
      rw [if_neg (by rw [e3]; exact c3)] at e10
      have e11 : s 11 = if s 7 = 0 then 1 else 0 := hH.1
      rw [if_pos ((hs 7 (by decide)).trans c4)] at e11
      have := findT_mem (show findT i [(8, false), (9, false), (10, false), (11, true)] = some bb from hb)
      simp only [List.mem_cons, List.not_mem_nil, or_false, Prod.mk.injEq] at this
      rcases this with ⟨rfl, rfl⟩ | ⟨rfl, rfl⟩ | ⟨rfl, rfl⟩ | ⟨rfl, rfl⟩
      · exact e8
      · exact e9
      · exact e10
      · exact e11
    · intro s hs hH st' β' a' w' v' hv' hm hag hr hbe
      have hv2 : v' = .bool true := hv'
      exact ⟨by rw [hv2], hbe⟩
theorem law_twoB {g : FuncId} {fn : Func} {nt : Nat} {T : Tab} (hT : T.Ok Try.prog)
    (run1 : briefR (T) fn [] (runF (T) (fixN nt 2 [(9, true)] npSy2) 3000 fn stSyB) = some ⟨.ret, 10, [lenE 0], [], [.one (.lit (.bool true))], []⟩)
    (run2 : briefR (T) fn [] (runF (T) (fixN nt 2 [(9, false), (10, true)] npSy2) 3000 fn stSyB) = some ⟨.ret, 11, [lenE 4, lenE 0], [], [.one (.lit (.bool true))], []⟩)
    (run3 : briefR (T) fn [] (runF (T) (fixN nt 2 [(9, false), (10, false), (11, true)] npSy2) 3000 fn stSyB) = some ⟨.ret, 12, [.feq (.v 3) (.c 0), lenE 4, lenE 0], [], [.one (.lit (.bool true))], []⟩)
    (run4 : briefR (T) fn [] (runF (T) (fixN nt 2 [(9, false), (10, false), (11, false), (12, true)] npSy2) 3000 fn stSyB) = some ⟨.ret, 13, [.feq (.v 7) (.c 0), .feq (.v 3) (.c 0), lenE 4, lenE 0], [], [.one (.lit (.bool true))], []⟩)
    (hf : Try.prog.funcs[g]? = some fn) (hnt : fn.ntmps = nt) (h1 : 3 ≤ nt) {w : World} {v v' : Value} {z : Nat} (hz : z < 256) {b o n u d f b' o' n' u' d' f' : Nat} (h : Sl w v b o n u d f) (h' : Sl w v' b' o' n' u' d' f')
    (hbad : 2147483647 < n ∨ 2147483647 < n' ∨ f = 0 ∨ f' = 0) : Law g w [.int .u8 (z : Int), v, v'] := by
  let s0 : Nums := fun i => if i = 0 then n else if i = 1 then u else if i = 2 then d else if i = 3 then f else if i = 4 then n' else if i = 5 then u' else if i = 6 then d' else if i = 7 then f' else z
  let β : Places := fun r => if r = 0 then (b, o) else (b', o')
  have hargs : ∀ s : Nums, (∀ i, i < 9 → s i = s0 i) → ArgsOk s β 2 [.one (.num .u8 8), .one (.sy 0 0), .one (.sy 1 4)] [.int .u8 (z : Int), v, v'] := fun s hs =>
    ⟨⟨by rw [hs 8 (by decide)]; rfl, by rw [hs 8 (by decide)]; exact hz⟩, h.rep rfl (by decide) (hs 0 (by decide)) (hs 1 (by decide)) (hs 2 (by decide)), h'.rep rfl (by decide) (hs 4 (by decide)) (hs 5 (by decide)) (hs 6 (by decide)), trivial⟩
  have hold : ∀ r, r < 2 → (β r).1 < w.heap.size := fun r _ => by
    show (if r = 0 then (b, o) else (b', o')).1 < _
    split
    · exact h.lt
    · exact h'.lt
  have hnp : ∀ s : Nums, (∀ i, i < 9 → s i = s0 i) → ∀ r i j, findT r npSy2 = some (i, j) → r < 2 ∧ Flag w (β r) (s i) (s j) := fun s hs r i j hh => by
    have := findT_mem hh
    simp only [npSy2, List.mem_cons, List.not_mem_nil, or_false, Prod.mk.injEq] at this
    rcases this with ⟨rfl, rfl, rfl⟩ | ⟨rfl, rfl, rfl⟩
    · exact ⟨by decide, h.np rfl (hs 0 (by decide)) (hs 3 (by decide))⟩
    · exact ⟨by decide, h'.np rfl (hs 4 (by decide)) (hs 7 (by decide))⟩
  by_cases c1 : 2147483647 < n
  · refine calls_briefR (F := fixN nt 2 [(9, true)] npSy2) hT run1 hf hnt rfl (by decide +kernel) (by decide +kernel) (by decide +kernel) h1 (show 3 < 4095 by decide) s0 β
      (vals := [.int .u8 (z : Int), v, v']) hargs (fun s hs => trivial) (fun r l hl hr => by cases hr) hold (fun r q _ _ h => by cases h) ?_ ?_ hnp
    · intro s hs hH i bb hb
      have e9 := len_gt hH.1 (hs 0 (by decide)) h.n63
      rw [if_pos (show 2147483647 < s0 0 from c1)] at e9
      obtain ⟨rfl, rfl⟩ := dec1 hb
      exact e9
    · intro s hs hH st' β' a' w' v' hv' hm hag hr hbe
      have hv2 : v' = .bool true := hv'
      exact ⟨by rw [hv2], hbe⟩
  by_cases c2 : 2147483647 < n'
  · refine calls_briefR (F := fixN nt 2 [(9, false), (10, true)] npSy2) hT run2 hf hnt rfl (by decide +kernel) (by decide +kernel) (by decide +kernel) h1 (show 3 < 4095 by decide) s0 β
      (vals := [.int .u8 (z : Int), v, v']) hargs (fun s hs => trivial) (fun r l hl hr => by cases hr) hold (fun r q _ _ h => by cases h) ?_ ?_ hnp
    · intro s hs hH i bb hb
      have e9 := len_gt hH.2.1 (hs 0 (by decide)) h.n63
      have e10 := len_gt hH.1 (hs 4 (by decide)) h'.n63
      rw [if_neg (show ¬ 2147483647 < s0 0 from c1)] at e9
      rw [if_pos (show 2147483647 < s0 4 from c2)] at e10
      rcases dec2 hb with ⟨rfl, rfl⟩ | ⟨rfl, rfl⟩
      · exact e9
      · exact e10
    · intro s hs hH st' β' a' w' v' hv' hm hag hr hbe
      have hv2 : v' = .bool true := hv'
      exact ⟨by rw [hv2], hbe⟩
  by_cases c3 : f = 0
  · refine calls_briefR (F := fixN nt 2 [(9, false), (10, false), (11, true)] npSy2) hT run3 hf hnt rfl (by decide +kernel) (by decide +kernel) (by decide +kernel) h1 (show 3 < 4095 by decide) s0 β
      (vals := [.int .u8 (z : Int), v, v']) hargs (fun s hs => trivial) (fun r l hl hr => by cases hr) hold (fun r q _ _ h => by cases h) ?_ ?_ hnp
    · intro s hs hH i bb hb
      have e9 := len_gt hH.2.2.1 (hs 0 (by decide)) h.n63
      have e10 := len_gt hH.2.1 (hs 4 (by decide)) h'.n63
      rw [if_neg (show ¬ 2147483647 < s0 0 from c1)] at e9
      rw [if_neg (show ¬ 2147483647 < s0 4 from c2)] at e10
      have e11 : s 11 = if s 3 = 0 then 1 else 0 := hH.1
      rw [if_pos ((hs 3 (by decide)).trans c3)] at e11
      have := findT_mem (show findT i [(9, false), (10, false), (11, true)] = some bb from hb)
      simp only [List.mem_cons, List.not_mem_nil, or_false, Prod.mk.injEq] at this
      rcases this with ⟨rfl, rfl⟩ | ⟨rfl, rfl⟩ | ⟨rfl, rfl⟩
      · exact e9
      · exact e10
      · exact e11
    · intro s hs hH st' β' a' w' v' hv' hm hag hr hbe
      have hv2 : v' = .bool true := hv'
      exact ⟨by rw [hv2], hbe⟩
  · have c4 : f' = 0 := by omega
    refine calls_briefR (F := fixN nt 2 [(9, false), (10, false), (11, false), (12, true)] npSy2) hT run4 hf hnt rfl (by decide +kernel) (by decide +kernel) (by decide +kernel) h1 (show 3 < 4095 by decide) s0 β
      (vals := [.int .u8 (z : Int), v, v']) hargs (fun s hs => trivial) (fun r l hl hr => by cases hr) hold (fun r q _ _ h => by cases h) ?_ ?_ hnp
    · intro s hs hH i bb hb
      have e9 := len_gt hH.2.2.2.1 (hs 0 (by decide)) h.n63
      have e10 := len_gt hH.2.2.1 (hs 4 (by decide)) h'.n63
      rw [if_neg (show ¬ 2147483647 < s0 0 from c1)] at e9
      rw [if_neg (show ¬ 2147483647 < s0 4 from c2)] at e10
      have e11 : s 11 = if s 3 = 0 then 1 else 0 := hH.2.1
      have e3 : s 3 = f := hs 3 (by decide)
      rw [if_neg (by rw [e3]; exact c3)] at e11
      have e12 : s 12 = if s 7 = 0 then 1 else 0 := hH.1
      rw [if_pos ((hs 7 (by decide)).trans c4)] at e12
      have := findT_mem (show findT i [(9, false), (10, false), (11, false), (12, true)] = some bb from hb)
      simp only [List.mem_cons, List.not_mem_nil, or_false, Prod.mk.injEq] at this
      rcases this with ⟨rfl, rfl⟩ | ⟨rfl, rfl⟩ | ⟨rfl, rfl⟩ | ⟨rfl, rfl⟩
      · exact e9
      · exact e10
      · exact e11
      · exact e12
    · intro s hs hH st' β' a' w' v' hv' hm hag hr hbe
      have hv2 : v' = .bool true := hv'
      exact ⟨by rw [hv2], hbe⟩

/-- The other second coordinate. -/
def negN (y : Nat) : Nat := ((((0 : Nat) : Int) - (y : Int)) % (pq : Int)).toNat
theorem negN_lt (y : Nat) : negN y < pq := m14 0 y
theorem ptN_neg (x y : Nat) : ptN x (negN y) = pneg (ptN x y) := by
  have h : fi pp (negN y) = 0 - fi pp y := by
    unfold negN
    rw [fi_int]
    rfl
  unfold ptN pneg
  rw [h]
theorem on_neg {x y : Nat} (h : onN x y = 1) : onN x (negN y) = 1 := on_onN (by rw [ptN_neg]; exact pneg_on (onN_on h))
theorem far_neg {x y : Nat} (h : onN x y = 1) : farOf (addN x y x (negN y)) = 1 := by
  have : addN x y x (negN y) = .far := by
    unfold addN
    rw [ptN_neg]
    exact padd_neg fine (onN_on h)
  rw [this]; rfl
theorem neg_of_far {x0 y0 x1 y1 : Nat} (l0 : x0 < pq) (l1 : x1 < pq) (l3 : y1 < pq) (h0 : onN x0 y0 = 1) (h1 : onN x1 y1 = 1) (h : farOf (addN x0 y0 x1 y1) = 1) : x1 = x0 ∧ y1 = negN y0 := by
  have hf : addN x0 y0 x1 y1 = .far := by
    rcases farOf_cases (addN x0 y0 x1 y1) with ⟨_, e⟩ | ⟨e, _⟩
    · exact e
    · rw [e] at h; cases h
  have e := eq_neg_of_padd fine (onN_on h0) (onN_on h1) hf
  rw [← ptN_neg] at e
  exact ptN_inj (lt_pp l1) (lt_pp l3) (lt_pp l0) (lt_pp (negN_lt _)) e
theorem neg_far {x0 y0 x1 y1 : Nat} (h0 : onN x0 y0 = 1) (hx : x1 = x0) (hy : y1 = negN y0) : farOf (addN x0 y0 x1 y1) = 1 := by
  rw [hx, hy]
  exact far_neg h0
end P224
