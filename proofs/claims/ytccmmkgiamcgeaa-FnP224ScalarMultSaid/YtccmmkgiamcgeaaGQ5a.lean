/- The length of a slice, as a law asks for it. -/
import Derived.Test.YtccmmkgiamcgeaaGR2
set_option linter.all false
namespace P224
open Go Go.RowKit Go.Proofs
set_option maxRecDepth 100000
set_option linter.unusedVariables false

def lenE (i : Nat) : Ex := .op 3 [.c 2147483647, .v i]
theorem len_gt {s : Nums} {i k n : Nat} (h : s k = (lenE i).val s) (hi : s i = n) (hn : n < 2 ^ 63) : s k = if 2147483647 < n then 1 else 0 := by
  have e : s k = if sgn 2147483647 < sgn (s i) then 1 else 0 := h
  have hs : sgn 2147483647 = 2147483647 := by decide
  have hsn : sgn n = n := by unfold sgn; rw [if_pos hn]
  rw [hi, hs, hsn] at e
  rw [e]
  by_cases hh : 2147483647 < n
  · rw [if_pos hh, if_pos (by omega)]
  · rw [if_neg hh, if_neg (by omega)]

end P224
/- Laws with a slice that is no point, or too long, and more. -/
namespace P224
open Go Go.RowKit Go.Proofs
set_option maxRecDepth 100000
set_option linter.unusedVariables false

/-- A law with one slice that is no point, or too long, and more: by two runs. -/
theorem law_one_x {g : FuncId} {fn : Func} {nt : Nat} {T : Tab} (hT : T.Ok Try.prog) {n0 : Nat} (h4 : 4 ≤ n0) {ex : List AV} {vs : List Value} (s1 : Nums)
    (run1 : briefR T fn [] (runF T (fixN nt 1 [(n0, true)] [(0, (0, 3))]) 3000 fn (startSt (.one (.sy 0 0) :: ex) [] n0 1)) = some ⟨.ret, n0 + 1, [lenE 0], [], [.one (.lit (.bool true))], []⟩)
    (run2 : briefR T fn [] (runF T (fixN nt 1 [(n0, false), (3, false), (n0 + 1, true)] [(0, (0, 3))]) 3000 fn (startSt (.one (.sy 0 0) :: ex) [] n0 1)) = some ⟨.ret, n0 + 2, [.feq (.v 3) (.c 0), lenE 0], [], [.one (.lit (.bool true))], []⟩)
    (hf : Try.prog.funcs[g]? = some fn) (hnt : fn.ntmps = nt) (hsc1 : inScope (n0 + 1) [lenE 0] = true) (hsc2 : inScope (n0 + 2) [.feq (.v 3) (.c 0), lenE 0] = true) (hl : (AV.one (.sy 0 0) :: ex).length ≤ nt) (hl2 : (AV.one (.sy 0 0) :: ex).length < 4095) (hex : ∀ s β, (∀ i, 4 ≤ i → i < n0 → s i = s1 i) → ArgsOk s β 1 ex vs)
    {w : World} {v : Value} {b o n u d f : Nat} (h : Sl w v b o n u d f) (hbad : 2147483647 < n ∨ f = 0) : Law g w (v :: vs) := by
  let s0 : Nums := fun i => if i = 0 then n else if i = 1 then u else if i = 2 then d else if i = 3 then f else s1 i
  have hargs : ∀ s : Nums, (∀ i, i < n0 → s i = s0 i) → ArgsOk s (fun _ => (b, o)) 1 (.one (.sy 0 0) :: ex) (v :: vs) := fun s hs =>
    ⟨h.rep rfl (show 0 < 1 by decide) (hs 0 (by omega)) (hs 1 (by omega)) (hs 2 (by omega)), hex s _ fun i h1 h2 => by
      rw [hs i h2]
      show (if i = 0 then n else if i = 1 then u else if i = 2 then d else if i = 3 then f else s1 i) = s1 i
      rw [if_neg (by omega), if_neg (by omega), if_neg (by omega), if_neg (by omega)]⟩
  have hnp : ∀ s : Nums, (∀ i, i < n0 → s i = s0 i) → ∀ r i j, findT r [(0, (0, 3))] = some (i, j) → r < 1 ∧ Flag w (b, o) (s i) (s j) := fun s hs r i j hh => by
    have := findT_mem hh
    simp only [List.mem_cons, List.not_mem_nil, or_false, Prod.mk.injEq] at this
    obtain ⟨rfl, rfl, rfl⟩ := this
    exact ⟨show 0 < 1 by decide, h.np (β := fun _ => (b, o)) (r := 0) rfl (hs 0 (by omega)) (hs 3 (by omega))⟩
  by_cases hlen : 2147483647 < n
  · refine calls_briefR (F := fixN nt 1 [(n0, true)] [(0, (0, 3))]) hT run1 hf hnt rfl ?_ (show 1 ≤ n0 + 1 by omega) (show n0 + 1 - 1 = n0 by omega) hl hl2 s0 (fun _ => (b, o))
      (vals := v :: vs) hargs (fun s hs => trivial) (fun r l hl hr => by cases hr) (fun r _ => h.lt) (fun r q _ _ h => by cases h) ?_ ?_ hnp
    · exact hsc1
    · intro s hs' hH i bb hb
      have e8 := len_gt hH.1 (hs' 0 (by omega)) h.n63
      rw [if_pos (show 2147483647 < s0 0 from hlen)] at e8
      obtain ⟨rfl, rfl⟩ := dec1 hb
      exact e8
    · intro s hs hH st' β' a' w' v' hv' hm hag hr hbe
      have hv2 : v' = .bool true := hv'
      exact ⟨by rw [hv2], hbe⟩
  · have hf0 : f = 0 := by omega
    refine calls_briefR (F := fixN nt 1 [(n0, false), (3, false), (n0 + 1, true)] [(0, (0, 3))]) hT run2 hf hnt rfl ?_ (show 2 ≤ n0 + 2 by omega) (show n0 + 2 - 2 = n0 by omega) hl hl2 s0 (fun _ => (b, o))
      (vals := v :: vs) hargs (fun s hs => trivial) (fun r l hl hr => by cases hr) (fun r _ => h.lt) (fun r q _ _ h => by cases h) ?_ ?_ hnp
    · exact hsc2
    · intro s hs' hH i bb hb
      have e := len_gt hH.2.1 (hs' 0 (by omega)) h.n63
      rw [if_neg (show ¬ 2147483647 < s0 0 from hlen)] at e
      have e5 : s (n0 + 1) = if s 3 = 0 then 1 else 0 := hH.1
      have e3 : s 3 = 0 := (hs' 3 (by omega)).trans hf0
      rw [if_pos e3] at e5
      have := findT_mem (show findT i [(n0, false), (3, false), (n0 + 1, true)] = some bb from hb)
      simp only [List.mem_cons, List.not_mem_nil, or_false, Prod.mk.injEq] at this
      rcases this with ⟨rfl, rfl⟩ | ⟨rfl, rfl⟩ | ⟨rfl, rfl⟩
      · exact e
      · exact e3
      · exact e5
    · intro s hs hH st' β' a' w' v' hv' hm hag hr hbe
      have hv2 : v' = .bool true := hv'
      exact ⟨by rw [hv2], hbe⟩
end P224
