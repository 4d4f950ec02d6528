/- Laws with two slices of bytes and an array, where one of the slices is no point or too long. -/
import Derived.Test.YtccmmkgiamcgeaaGV13
set_option linter.all false
namespace P224
open Go Go.RowKit Go.Proofs
set_option maxRecDepth 100000
set_option linter.unusedVariables false

def stSyA : St := startSt [.one (.sy 0 0), .one (.sy 1 4), .agg (numsFrom .u8 8 28)] [] 36 2
theorem law_two_a {g : FuncId} {fn : Func} {nt : Nat} {T : Tab} (hT : T.Ok Try.prog)
    (run1 : briefR T fn [] (runF T (fixN nt 2 [(36, true)] npSy2) 3000 fn stSyA) = some ⟨.ret, 37, [lenE 0], [], [.one (.lit (.bool true))], []⟩)
    (run2 : briefR T fn [] (runF T (fixN nt 2 [(36, false), (37, true)] npSy2) 3000 fn stSyA) = some ⟨.ret, 38, [lenE 4, lenE 0], [], [.one (.lit (.bool true))], []⟩)
    (run3 : briefR T fn [] (runF T (fixN nt 2 [(36, false), (37, false), (38, true)] npSy2) 3000 fn stSyA) = some ⟨.ret, 39, [.feq (.v 3) (.c 0), lenE 4, lenE 0], [], [.one (.lit (.bool true))], []⟩)
    (run4 : briefR T fn [] (runF T (fixN nt 2 [(36, false), (37, false), (38, false), (39, true)] npSy2) 3000 fn stSyA) = some ⟨.ret, 40, [.feq (.v 7) (.c 0), .feq (.v 3) (.c 0), lenE 4, lenE 0], [], [.one (.lit (.bool true))], []⟩)
    (hf : Try.prog.funcs[g]? = some fn) (hnt : fn.ntmps = nt) (h1 : 3 ≤ nt) {w : World} {v v' : Value} {b o n u d f b' o' n' u' d' f' : Nat} (h : Sl w v b o n u d f) (h' : Sl w v' b' o' n' u' d' f')
    {k : List Nat} (hk : Is28 k)
    (hbad : 2147483647 < n ∨ 2147483647 < n' ∨ f = 0 ∨ f' = 0) : Law g w [v, v', arrV k] := by
  let s0 : Nums := fun i => if i = 0 then n else if i = 1 then u else if i = 2 then d else if i = 3 then f else if i = 4 then n' else if i = 5 then u' else if i = 6 then d' else if i = 7 then f' else k.getD (i - 8) 0
  let β : Places := fun r => if r = 0 then (b, o) else (b', o')
  have hargs : ∀ s : Nums, (∀ i, i < 36 → s i = s0 i) → ArgsOk s β 2 [.one (.sy 0 0), .one (.sy 1 4), .agg (numsFrom .u8 8 28)] [v, v', arrV k] := fun s hs =>
    ⟨h.rep rfl (by decide) (hs 0 (by decide)) (hs 1 (by decide)) (hs 2 (by decide)), h'.rep rfl (by decide) (hs 4 (by decide)) (hs 5 (by decide)) (hs 6 (by decide)), agg_rep hk (fun m hm => by
      rw [hs (8 + m) (by omega)]
      show (if 8 + m = 0 then n else if 8 + m = 1 then u else if 8 + m = 2 then d else if 8 + m = 3 then f else if 8 + m = 4 then n' else if 8 + m = 5 then u' else if 8 + m = 6 then d' else if 8 + m = 7 then f' else k.getD (8 + m - 8) 0) = _
      rw [if_neg (by omega), if_neg (by omega), if_neg (by omega), if_neg (by omega), if_neg (by omega), if_neg (by omega), if_neg (by omega), if_neg (by omega), show 8 + m - 8 = m by omega]), trivial⟩
  have hold : ∀ r, r < 2 → (β r).1 < w.heap.size := fun r _ => by
    show (if r = 0 then (b, o) else (b', o')).1 < _
    split
    · exact h.lt
    · exact h'.lt
  have hnp : ∀ s : Nums, (∀ i, i < 36 → s i = s0 i) → ∀ r i j, findT r npSy2 = some (i, j) → r < 2 ∧ Flag w (β r) (s i) (s j) := fun s hs r i j hh => by
    have := findT_mem hh
    simp only [npSy2, List.mem_cons, List.not_mem_nil, or_false, Prod.mk.injEq] at this
    rcases this with ⟨rfl, rfl, rfl⟩ | ⟨rfl, rfl, rfl⟩
    · exact ⟨by decide, h.np rfl (hs 0 (by decide)) (hs 3 (by decide))⟩
    · exact ⟨by decide, h'.np rfl (hs 4 (by decide)) (hs 7 (by decide))⟩
  by_cases c1 : 2147483647 < n
  · refine calls_briefR (F := fixN nt 2 [(36, true)] npSy2) hT run1 hf hnt rfl (by decide +kernel) (by decide +kernel) (by decide +kernel) h1 (show 3 < 4095 by decide) s0 β
      (vals := [v, v', arrV k]) hargs (fun s hs => trivial) (fun r l hl hr => by cases hr) hold (fun r q _ _ h => by cases h) ?_ ?_ hnp
    · intro s hs hH i bb hb
      have e8 := len_gt hH.1 (hs 0 (by decide)) h.n63
      rw [if_pos (show 2147483647 < s0 0 from c1)] at e8
      obtain ⟨rfl, rfl⟩ := dec1 hb
      exact e8
    · intro s hs hH st' β' a' w' v' hv' hm hag hr hbe
      have hv2 : v' = .bool true := hv'
      exact ⟨by rw [hv2], hbe⟩
  by_cases c2 : 2147483647 < n'
  · refine calls_briefR (F := fixN nt 2 [(36, false), (37, true)] npSy2) hT run2 hf hnt rfl (by decide +kernel) (by decide +kernel) (by decide +kernel) h1 (show 3 < 4095 by decide) s0 β
      (vals := [v, v', arrV k]) hargs (fun s hs => trivial) (fun r l hl hr => by cases hr) hold (fun r q _ _ h => by cases h) ?_ ?_ hnp
    · intro s hs hH i bb hb
      have e8 := len_gt hH.2.1 (hs 0 (by decide)) h.n63
      have e9 := len_gt hH.1 (hs 4 (by decide)) h'.n63
      rw [if_neg (show ¬ 2147483647 < s0 0 from c1)] at e8
      rw [if_pos (show 2147483647 < s0 4 from c2)] at e9
      rcases dec2 hb with ⟨rfl, rfl⟩ | ⟨rfl, rfl⟩
      · exact e8
      · exact e9
    · intro s hs hH st' β' a' w' v' hv' hm hag hr hbe
      have hv2 : v' = .bool true := hv'
      exact ⟨by rw [hv2], hbe⟩
  by_cases c3 : f = 0
  · refine calls_briefR (F := fixN nt 2 [(36, false), (37, false), (38, true)] npSy2) hT run3 hf hnt rfl (by decide +kernel) (by decide +kernel) (by decide +kernel) h1 (show 3 < 4095 by decide) s0 β
      (vals := [v, v', arrV k]) hargs (fun s hs => trivial) (fun r l hl hr => by cases hr) hold (fun r q _ _ h => by cases h) ?_ ?_ hnp
    · intro s hs hH i bb hb
      have e8 := len_gt hH.2.2.1 (hs 0 (by decide)) h.n63
      have e9 := len_gt hH.2.1 (hs 4 (by decide)) h'.n63
      rw [if_neg (show ¬ 2147483647 < s0 0 from c1)] at e8
      rw [if_neg (show ¬ 2147483647 < s0 4 from c2)] at e9
      have e10 : s 38 = if s 3 = 0 then 1 else 0 := hH.1
      rw [if_pos ((hs 3 (by decide)).trans c3)] at e10
      have := findT_mem (show findT i [(36, false), (37, false), (38, true)] = some bb from hb)
      simp only [List.mem_cons, List.not_mem_nil, or_false, Prod.mk.injEq] at this
      rcases this with ⟨rfl, rfl⟩ | ⟨rfl, rfl⟩ | ⟨rfl, rfl⟩
      · exact e8
      · exact e9
      · exact e10
    · intro s hs hH st' β' a' w' v' hv' hm hag hr hbe
      have hv2 : v' = .bool true := hv'
      exact ⟨by rw [hv2], hbe⟩
  · have c4 : f' = 0 := by omega
    refine calls_briefR (F := fixN nt 2 [(36, false), (37, false), (38, false), (39, true)] npSy2) hT run4 hf hnt rfl (by decide +kernel) (by decide +kernel) (by decide +kernel) h1 (show 3 < 4095 by decide) s0 β
      (vals := [v, v', arrV k]) hargs (fun s hs => trivial) (fun r l hl hr => by cases hr) hold (fun r q _ _ h => by cases h) ?_ ?_ hnp
    · intro s hs hH i bb hb
      have e8 := len_gt hH.2.2.2.1 (hs 0 (by decide)) h.n63
      have e9 := len_gt hH.2.2.1 (hs 4 (by decide)) h'.n63
      rw [if_neg (show ¬ 2147483647 < s0 0 from c1)] at e8
      rw [if_neg (show ¬ 2147483647 < s0 4 from c2)] at e9
      have e10 : s 38 = if s 3 = 0 then 1 else 0 := hH.2.1
      have e3 : s 3 = f := hs 3 (by decide)
      rw [if_neg (by rw [e3]; exact c3)] at e10
      have e11 : s 39 = if s 7 = 0 then 1 else 0 := hH.1
      rw [if_pos ((hs 7 (by decide)).trans c4)] at e11
      have := findT_mem (show findT i [(36, false), (37, false), (38, false), (39, true)] = some bb from hb)
      simp only [List.mem_cons, List.not_mem_nil, or_false, Prod.mk.injEq] at this
      rcases this with ⟨rfl, rfl⟩ | ⟨rfl, rfl⟩ | ⟨rfl, rfl⟩ | ⟨rfl, rfl⟩
      · exact e8
      · exact e9
      · exact e10
      · exact e11
    · intro s hs hH st' β' a' w' v' hv' hm hag hr hbe
      have hv2 : v' = .bool true := hv'
      exact ⟨by rw [hv2], hbe⟩
end P224
