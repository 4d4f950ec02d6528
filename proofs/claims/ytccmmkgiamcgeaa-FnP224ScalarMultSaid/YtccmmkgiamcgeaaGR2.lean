/- The reference's Read of whatever bytes: a call that tells whether they are a point. -/
import Derived.Test.YtccmmkgiamcgeaaGT9
set_option linter.all false
namespace P224
open Go Go.RowKit Go.Proofs
set_option maxRecDepth 100000
set_option linter.unusedVariables false

def noPt : List AV := [.agg [.lit (.bool false), .lit (.slice none 0 0), .lit (.slice none 0 0)], .one (.lit (.bool false))]
def fix28a : Fix := fixD 67 2 [] [] [(3, false), (4, true)]
def br28a : BriefR := ⟨.ret, 5, [.fne (.v 0) (.c 57), .feq (.v 0) (.c 1)], [], noPt, []⟩
theorem run28a : briefR (tabX true [] xq2) Try.f28 [] (runF (tabX true [] xq2) fix28a 3000 Try.f28 (startSt [curveAV 0, .one (.sy 1 0)] [(0, foldCells)] 3 2)) = some br28a := by kernel_rfl
def fix28b : Fix := fixD 67 2 [] [] [(1, false)]
def br28b : BriefR := ⟨.ret, 2, [.feq (.v 0) (.c 0)], [], noPt, []⟩
theorem run28b : briefR (tabX true [] xq2) Try.f28 [] (runF (tabX true [] xq2) fix28b 3000 Try.f28 (startSt [curveAV 0, .one (.sl 1 0 1)] [(0, foldCells), (1, [.num .u8 0])] 1 2)) = some br28b := by kernel_rfl
def fix28c : Fix := fixD 67 2 [] [] []
def br28c : BriefR := ⟨.ret, 0, [], [], [.agg [.lit (.bool true), .lit (.slice none 0 0), .lit (.slice none 0 0)], .one (.lit (.bool true))], []⟩
theorem run28c : briefR (tabX true [] xq2) Try.f28 [] (runF (tabX true [] xq2) fix28c 3000 Try.f28 (startSt [curveAV 0, .one (.sl 1 0 1)] [(0, foldCells), (1, [.lit (.int .u8 0)])] 0 2)) = some br28c := by kernel_rfl
def fix28d : Fix := fixD 67 2 [] [] [(57, true)]
def br28d : BriefR := ⟨.ret, 58, [.fne (.v 0) (.c 4)], [], noPt, []⟩
theorem run28d : briefR (tabX true [] xq2) Try.f28 [] (runF (tabX true [] xq2) fix28d 3000 Try.f28 (startSt [curveAV 0, .one (.sl 1 0 57)] [(0, foldCells), (1, numsFrom .u8 0 57)] 57 2)) = some br28d := by kernel_rfl
def st28n : St := startSt [curveAV 0, .one (.sl 1 0 57)] [(0, foldCells), (1, .lit (.int .u8 4) :: numsFrom .u8 0 56)] 56 2
def bigPt : List AV := [.agg [.lit (.bool false), .slc 4 0 7 7, .slc 5 0 7 7], .one (.lit (.bool false))]
def fix28x : Fix := fixD 67 2 [] [] [(58, false)]
def br28x : BriefR := ⟨.ret, 59, [.op 4 [.v 56, .c pq], .op 2 (vsF 28), .op 2 (vsF 0)], [], bigPt, []⟩
theorem run28x : briefR (tabX true [] xq2) Try.f28 [] (runF (tabX true [] xq2) fix28x 3000 Try.f28 st28n) = some br28x := by kernel_rfl
def fix28y : Fix := fixD 67 2 [] [] [(58, true), (59, false)]
def br28y : BriefR := ⟨.ret, 60, [.op 4 [.v 57, .c pq], .op 4 [.v 56, .c pq], .op 2 (vsF 28), .op 2 (vsF 0)], [], bigPt, []⟩
theorem run28y : briefR (tabX true [] xq2) Try.f28 [] (runF (tabX true [] xq2) fix28y 3000 Try.f28 st28n) = some br28y := by kernel_rfl
end P224
/- The reference's Read of whatever bytes: the contract. -/
namespace P224
open Go Go.RowKit Go.Proofs
set_option maxRecDepth 100000
set_option linter.unusedVariables false

theorem tup2_bool {s : Nums} {β : Places} {n : Nat} {a b c : A0} {bb : Bool} {v : Value} (hd : (definite a && definite b && definite c) = true) (h : (resAV [.agg [a, b, c], .one (.lit (.bool bb))]).rep s β n v) :
    ∃ x y z, v = .tuple #[.agg #[x, y, z], .bool bb] ∧ x.oneCell' = true ∧ y.oneCell' = true ∧ z.oneCell' = true := by
  simp only [Bool.and_eq_true] at hd
  obtain ⟨vs, rfl, hl⟩ := h
  match vs, hl with
  | [u, b], ⟨hu, hb, _⟩ =>
    have hb' : b = .bool bb := hb
    obtain ⟨us, rfl, hul, huc⟩ := hu
    match us, hul, huc with
    | [x, y, z], _, huc =>
      have k0 := rep_conc hd.1.1 (huc 0 _ x rfl rfl)
      have k1 := rep_conc hd.1.2 (huc 1 _ y rfl rfl)
      have k2 := rep_conc hd.2 (huc 2 _ z rfl rfl)
      exact ⟨x, y, z, by rw [hb'], by rw [k0]; exact oneCell_conc hd.1.1, by rw [k1]; exact oneCell_conc hd.1.2, by rw [k2]; exact oneCell_conc hd.2⟩

theorem dec1 {i j : Nat} {b c : Bool} (h : findT i [(j, c)] = some b) : i = j ∧ b = c := by
  have := findT_mem h
  simp only [List.mem_cons, List.not_mem_nil, or_false, Prod.mk.injEq] at this
  exact this
theorem dec2 {i j k : Nat} {b c d : Bool} (h : findT i [(j, c), (k, d)] = some b) : (i = j ∧ b = c) ∨ (i = k ∧ b = d) := by
  have := findT_mem h
  simp only [List.mem_cons, List.not_mem_nil, or_false, Prod.mk.injEq] at this
  exact this

/-- What Read answers. -/
def Told (w : World) (f : Nat) (v : Value) (w' : World) : Prop := ∃ x y z, v = .tuple #[.agg #[x, y, z], .bool (f == 1)] ∧ (x.oneCell' = true ∧ y.oneCell' = true ∧ z.oneCell' = true) ∧ Below w.heap.size w w'

theorem meets28g (w : World) (bf of b o n f : Nat) (v : Value) (hfo : FoldsAt w bf of) (hb : b < w.heap.size) (hn63 : n < 2 ^ 63)
    (hv : (∃ c, v = .slice (some ⟨b, o, none⟩) n c ∧ n ≤ c) ∨ (n = 0 ∧ v = .slice none 0 0)) (hf : Flag w (b, o) n f) :
    Meets Try.prog 28 #[curveV bf of, v] w (Told w f) := by
  let β : Places := fun r => if r = 0 then (bf, of) else (b, o)
  have hold : ∀ r, r < 2 → (β r).1 < w.heap.size := fun r _ => by
    show (if r = 0 then (bf, of) else (b, o)).1 < _
    split
    · exact hfo.lt
    · exact hb
  have hsl : n ≠ 0 → ∃ c, v = .slice (some ⟨b, o, none⟩) n c ∧ n ≤ c := fun h0 => by
    rcases hv with hv | ⟨h, _⟩
    · exact hv
    · exact absurd h h0
  rcases hf.kinds with ⟨h1, h2, hfl⟩ | ⟨z, hn, hc, hz, hfl⟩ | ⟨g, hn, hc, h4, hfl⟩ | ⟨g, hn, h4, hc, hbg, hfl⟩ | ⟨x, y, hn, hp, hx, hy, hfl⟩
  · refine meets_of_calls Try.func28 (by kernel_rfl) (by kernel_rfl) ?_
    obtain ⟨u, d, hv0, hcap, hnil⟩ : ∃ u d : Nat, v = (if d = 1 then .slice none 0 0 else .slice (some ⟨b, o, none⟩) n u) ∧ n ≤ u ∧ (d = 1 → n = 0) := by
      rcases hv with ⟨c, hv, hc⟩ | ⟨h0, hv⟩
      · exact ⟨c, 0, hv, hc, fun e => by cases e⟩
      · exact ⟨n, 1, hv, Nat.le_refl _, fun _ => h0⟩
    refine calls_briefR (F := fix28a) (tabX_ok noPrims_ok xq2_ok) run28a Try.func28 Try.ntmps28 rfl (by decide +kernel) (by decide +kernel) (by decide +kernel) (show 2 ≤ 67 by decide) (show 2 < 4095 by decide) (fun i => if i = 0 then n else if i = 1 then u else d) β
      (vals := [curveV bf of, v]) (fun s hs => ⟨curve_rep rfl (show 0 < 2 by decide), ⟨?_, show 1 < 2 by decide, by rw [hs 0 (by decide)]; exact hn63, by rw [hs 0 (by decide), hs 1 (by decide)]; exact hcap, by rw [hs 0 (by decide), hs 2 (by decide)]; exact hnil⟩, trivial⟩)
      (fun s hs => ⟨show 0 < 2 by decide, fold_row rfl hfo, trivial⟩) (fun r l hl hr => by cases hr) hold (fun r q _ _ h => by cases h) ?_ ?_
    · rw [syV, hs 0 (by decide), hs 1 (by decide), hs 2 (by decide), hv0]; rfl
    · intro s hs hH i bb hb
      have e0 : s 0 = n := hs 0 (by decide)
      have e2 : s 3 = if s 0 = 1 then 1 else 0 := hH.2.1
      have e3 : s 4 = if s 0 = 57 then 0 else 1 := hH.1
      rw [e0, if_neg h1] at e2
      rw [e0, if_neg h2] at e3
      rcases dec2 hb with ⟨rfl, rfl⟩ | ⟨rfl, rfl⟩ <;> assumption
    · intro s hs hH st' β' a' w' v' hv' hm hag hr hbe
      obtain ⟨x1, x2, x3, rfl, o1, o2, o3⟩ := tup2_bool rfl hv'
      exact ⟨_, rfl, x1, x2, x3, by rw [hfl]; rfl, ⟨o1, o2, o3⟩, hbe⟩
  · refine meets_of_calls Try.func28 (by kernel_rfl) (by kernel_rfl) ?_
    subst hn
    obtain ⟨c, rfl, hcap⟩ := hsl (by decide)
    by_cases h0 : z = 0
    · subst h0
      refine calls_briefR (F := fix28c) (tabX_ok noPrims_ok xq2_ok) run28c Try.func28 Try.ntmps28 rfl (by decide +kernel) (by decide +kernel) (by decide +kernel) (show 2 ≤ 67 by decide) (show 2 < 4095 by decide) (fun _ => 0) β
        (vals := [curveV bf of, _]) (fun s hs => ⟨curve_rep rfl (show 0 < 2 by decide), ⟨c, hcap, rfl, show 1 < 2 by decide⟩, trivial⟩)
        (fun s hs => ⟨show 0 < 2 by decide, fold_row rfl hfo, show 1 < 2 by decide, ⟨⟨_, hc, rfl⟩, trivial⟩, trivial⟩) (fun r l hl hr => by cases hr) hold (fun r q _ _ h => by cases h) (fun s hs hH i bb hb => by cases hb) ?_
      intro s hs hH st' β' a' w' v' hv' hm hag hr hbe
      obtain ⟨x1, x2, x3, rfl, o1, o2, o3⟩ := tup2_bool rfl hv'
      exact ⟨_, rfl, x1, x2, x3, by rw [hfl]; rfl, ⟨o1, o2, o3⟩, hbe⟩
    · refine calls_briefR (F := fix28b) (tabX_ok noPrims_ok xq2_ok) run28b Try.func28 Try.ntmps28 rfl (by decide +kernel) (by decide +kernel) (by decide +kernel) (show 2 ≤ 67 by decide) (show 2 < 4095 by decide) (fun _ => z) β
        (vals := [curveV bf of, _]) (fun s hs => ⟨curve_rep rfl (show 0 < 2 by decide), ⟨c, hcap, rfl, show 1 < 2 by decide⟩, trivial⟩)
        (fun s hs => ⟨show 0 < 2 by decide, fold_row rfl hfo, show 1 < 2 by decide, ⟨⟨_, hc, by rw [hs 0 (by decide)], by rw [hs 0 (by decide)]; exact hz⟩, trivial⟩, trivial⟩) (fun r l hl hr => by cases hr) hold (fun r q _ _ h => by cases h) ?_ ?_
      · intro s hs hH i bb hb
        have e0 : s 0 = z := hs 0 (by decide)
        have e1 : s 1 = if s 0 = 0 then 1 else 0 := hH.1
        rw [e0, if_neg h0] at e1
        obtain ⟨rfl, rfl⟩ := dec1 hb
        exact e1
      · intro s hs hH st' β' a' w' v' hv' hm hag hr hbe
        obtain ⟨x1, x2, x3, rfl, o1, o2, o3⟩ := tup2_bool rfl hv'
        exact ⟨_, rfl, x1, x2, x3, by rw [hfl, if_neg h0]; rfl, ⟨o1, o2, o3⟩, hbe⟩
  · refine meets_of_calls Try.func28 (by kernel_rfl) (by kernel_rfl) ?_
    subst hn
    obtain ⟨c, rfl, hcap⟩ := hsl (by decide)
    refine calls_briefR (F := fix28d) (tabX_ok noPrims_ok xq2_ok) run28d Try.func28 Try.ntmps28 rfl (by decide +kernel) (by decide +kernel) (by decide +kernel) (show 2 ≤ 67 by decide) (show 2 < 4095 by decide) g β
      (vals := [curveV bf of, _]) (fun s hs => ⟨curve_rep rfl (show 0 < 2 by decide), ⟨c, hcap, rfl, show 1 < 2 by decide⟩, trivial⟩)
      (fun s hs => ⟨show 0 < 2 by decide, fold_row rfl hfo, show 1 < 2 by decide, row_nums 57 0 0 fun k hk => by
        obtain ⟨e1, e2⟩ := hc k hk
        rw [Nat.zero_add, hs _ hk]
        exact ⟨e1, e2⟩, trivial⟩) (fun r l hl hr => by cases hr) hold (fun r q _ _ h => by cases h) ?_ ?_
    · intro s hs hH i bb hb
      have e0 : s 0 = g 0 := hs 0 (by decide)
      have e1 : s 57 = if s 0 = 4 then 0 else 1 := hH.1
      rw [e0, if_neg h4] at e1
      obtain ⟨rfl, rfl⟩ := dec1 hb
      exact e1
    · intro s hs hH st' β' a' w' v' hv' hm hag hr hbe
      obtain ⟨x1, x2, x3, rfl, o1, o2, o3⟩ := tup2_bool rfl hv'
      exact ⟨_, rfl, x1, x2, x3, by rw [hfl]; rfl, ⟨o1, o2, o3⟩, hbe⟩
  · refine meets_of_calls Try.func28 (by kernel_rfl) (by kernel_rfl) ?_
    subst hn
    obtain ⟨c, rfl, hcap⟩ := hsl (by decide)
    have hrow : ∀ s : Nums, (∀ i, i < 56 → s i = g i) → MemOk s β 2 w [(0, foldCells), (1, .lit (.int .u8 4) :: numsFrom .u8 0 56)] := fun s hs =>
      ⟨show 0 < 2 by decide, fold_row rfl hfo, show 1 < 2 by decide, ⟨⟨_, h4, rfl⟩, row_nums 56 0 1 fun k hk => by
        obtain ⟨e1, e2⟩ := hc k hk
        rw [Nat.zero_add, hs _ hk]
        refine ⟨?_, e2⟩
        rw [at_, show (β 1).2 + (1 + k) = o + 1 + k from by show o + (1 + k) = _; omega]
        exact e1⟩, trivial⟩
    by_cases hx : ofBytes (rowF fun i => g (0 + i)) < pq
    · have hy : ¬ ofBytes (rowF fun i => g (28 + i)) < pq := fun hy => hbg ⟨hx, hy⟩
      refine calls_briefR (F := fix28y) (tabX_ok noPrims_ok xq2_ok) run28y Try.func28 Try.ntmps28 rfl (by decide +kernel) (by decide +kernel) (by decide +kernel) (show 2 ≤ 67 by decide) (show 2 < 4095 by decide) g β
        (vals := [curveV bf of, _]) (fun s hs => ⟨curve_rep rfl (show 0 < 2 by decide), ⟨c, hcap, rfl, show 1 < 2 by decide⟩, trivial⟩) (fun s hs => hrow s hs) (fun r l hl hr => by cases hr) hold (fun r q _ _ h => by cases h) ?_ ?_
      · intro s hs hH i bb hb
        have e59 : s 59 = if s 57 < pq then 1 else 0 := hH.1
        have e58 : s 58 = if s 56 < pq then 1 else 0 := hH.2.1
        have e57 : s 57 = ofBytes ((vsF 28).map (Wd.val s)) := hH.2.2.1
        have e56 : s 56 = ofBytes ((vsF 0).map (Wd.val s)) := hH.2.2.2.1
        rw [vals_vsF (g := g) fun i hi => hs _ (by omega)] at e57 e56
        rw [e56, if_pos hx] at e58
        rw [e57, if_neg hy] at e59
        rcases dec2 hb with ⟨rfl, rfl⟩ | ⟨rfl, rfl⟩ <;> assumption
      · intro s hs hH st' β' a' w' v' hv' hm hag hr hbe
        obtain ⟨x1, x2, x3, rfl, o1, o2, o3⟩ := tup2_bool rfl hv'
        exact ⟨_, rfl, x1, x2, x3, by rw [hfl]; rfl, ⟨o1, o2, o3⟩, hbe⟩
    · refine calls_briefR (F := fix28x) (tabX_ok noPrims_ok xq2_ok) run28x Try.func28 Try.ntmps28 rfl (by decide +kernel) (by decide +kernel) (by decide +kernel) (show 2 ≤ 67 by decide) (show 2 < 4095 by decide) g β
        (vals := [curveV bf of, _]) (fun s hs => ⟨curve_rep rfl (show 0 < 2 by decide), ⟨c, hcap, rfl, show 1 < 2 by decide⟩, trivial⟩) (fun s hs => hrow s hs) (fun r l hl hr => by cases hr) hold (fun r q _ _ h => by cases h) ?_ ?_
      · intro s hs hH i bb hb
        have e58 : s 58 = if s 56 < pq then 1 else 0 := hH.1
        have e56 : s 56 = ofBytes ((vsF 0).map (Wd.val s)) := hH.2.2.1
        rw [vals_vsF (g := g) fun i hi => hs _ (by omega)] at e56
        rw [e56, if_neg hx] at e58
        obtain ⟨rfl, rfl⟩ := dec1 hb
        exact e58
      · intro s hs hH st' β' a' w' v' hv' hm hag hr hbe
        obtain ⟨x1, x2, x3, rfl, o1, o2, o3⟩ := tup2_bool rfl hv'
        exact ⟨_, rfl, x1, x2, x3, by rw [hfl]; rfl, ⟨o1, o2, o3⟩, hbe⟩
  · subst hn
    obtain ⟨c, rfl, hcap⟩ := hsl (by decide)
    have hme := meets28 w bf of b o c x y hcap hfo hp hx hy
    intro o' a' next Q hn
    refine hme o' a' next Q fun v' w' ⟨bx, b2, hels, hv'⟩ => hn _ _ ?_
    exact ⟨_, _, _, by rw [hv', hfl], ⟨rfl, rfl, rfl⟩, hels.2.2.2.2.2.2.2.2.2⟩
end P224
/- The reference's Read of whatever bytes, as a call that the executor knows; the laws' table. -/
namespace P224
open Go Go.RowKit Go.Proofs
set_option maxRecDepth 100000
set_option linter.unusedVariables false

def x28g : X := fun F st args => match args with
  | [cv, .one (.sy r i)] => match isCurve st cv, F.np r with
    | some _, some (i', j) => bif i' == i && st.out.isEmpty then some (.tup [.agg [.ac, .ac, .ac], .one (.bl j)], st) else none
    | _, _ => none
  | _ => none

theorem Flag.below {w0 w : World} {p : Nat × Nat} {n f : Nat} (h : Flag w0 p n f) (hb : Below w0.heap.size w0 w) (hp : p.1 < w0.heap.size) : Flag w p n f := by
  obtain ⟨l, h1, h2, h3, h4⟩ := h
  refine ⟨l, h1, h2, fun k z hz => ?_, h4⟩
  rw [hb.cell (p := ⟨p.1, p.2 + k, none⟩) hp]
  exact h3 k z hz
theorem Flag.le {w : World} {p : Nat × Nat} {n f : Nat} (h : Flag w p n f) : f ≤ 1 := by
  obtain ⟨l, _, _, _, rfl⟩ := h
  exact isPt_le l

theorem x28g_ok : XOk Try.prog 28 x28g := by
  refine ⟨fun {F st st' args av} h => ?_, fun {s β F w0 st st' a w args vs av} hr h hargs hH => ?_⟩
  · unfold x28g at h
    split at h
    · split at h
      · obtain ⟨_, h⟩ := bif_some h
        cases h; exact .refl _
      · cases h
    · cases h
  · unfold x28g at h
    split at h
    · rename_i cv r i
      split at h
      · rename_i q i' j hcv hnp
        obtain ⟨hd, h⟩ := bif_some h
        cases h
        rw [Bool.and_eq_true] at hd
        have hi := beq_iff_eq.1 hd.1
        subst hi
        have hout : st.out = [] := List.isEmpty_iff.1 hd.2
        obtain ⟨hrn, hfl⟩ := hr.np r i' j hnp
        have hbe := hr.below
        rw [hout] at hbe
        have hlt := hr.old r hrn
        have hfl' := hfl.below hbe hlt
        obtain ⟨u0, u, rfl, hu0, hu⟩ := avs2 hargs
        obtain ⟨rf, of⟩ := q
        obtain ⟨c0, c1, c2⟩ := isCurve_rep hr hcv hu0
        obtain ⟨hv0, _, hs63, hcap, hnil⟩ := hu
        have hv : (∃ c, u = .slice (some ⟨(β r).1, (β r).2, none⟩) (s i') c ∧ s i' ≤ c) ∨ (s i' = 0 ∧ u = .slice none 0 0) := by
          rw [syV] at hv0
          split at hv0
          · rename_i h1; exact .inr ⟨hnil h1, hv0⟩
          · exact .inl ⟨_, hv0, hcap⟩
        have hsz := hr.size_le
        have hme := meets28g w (β rf).1 ((β rf).2 + of) (β r).1 (β r).2 (s i') (s j) u c1 (Nat.lt_of_lt_of_le hlt hsz) hs63 hv hfl'
        · intro o' a' next Q hn
          rw [c0]
          refine hme o' a' next Q fun v' w' ⟨x1, x2, x3, hv', ⟨o1, o2, o3⟩, hb'⟩ => hn _ _ ?_
          refine ⟨β, Agree.refl _ _, ⟨[_, _], hv', ⟨[x1, x2, x3], rfl, rfl, fun k a x ha hx => ?_⟩, ⟨rfl, hfl.le⟩, trivial⟩, hr.kept hb'⟩
          match k, ha, hx with
          | 0, ha, hx => cases ha; cases hx; exact o1
          | 1, ha, hx => cases ha; cases hx; exact o2
          | 2, ha, hx => cases ha; cases hx; exact o3
          | k + 3, ha, hx => cases ha
      · cases h
    · cases h
noncomputable def xz : List (Nat × X) := (28, X.or x28g x28) :: xm4
theorem xz_ok : XsOk xz := xcons_ok (X.or_ok x28g_ok x28_ok) xm4_ok
end P224
/- A slice of bytes that came in, as the executor is told of it. -/
namespace P224
open Go Go.RowKit Go.Proofs
set_option maxRecDepth 100000
set_option linter.unusedVariables false

/-- A slice of n bytes at (b, o), of room u, nil if d is 1, a point if f is 1. -/
structure Sl (w : World) (v : Value) (b o n u d f : Nat) : Prop where
  eq : v = if d = 1 then .slice none 0 0 else .slice (some ⟨b, o, none⟩) n u
  le : n ≤ u
  nil : d = 1 → n = 0
  lt : b < w.heap.size
  n63 : n < 2 ^ 63
  flag : Flag w (b, o) n f

theorem Sl.rep {w : World} {v : Value} {b o n u d f : Nat} (h : Sl w v b o n u d f) {s : Nums} {β : Places} {nr r i : Nat} (hβ : β r = (b, o)) (hr : r < nr) (h0 : s i = n) (h1 : s (i + 1) = u) (h2 : s (i + 2) = d) : (A0.sy r i).rep s β nr v := by
  refine ⟨?_, hr, by rw [h0]; exact h.n63, by rw [h0, h1]; exact h.le, by rw [h0, h2]; exact h.nil⟩
  rw [syV, h0, h1, h2, h.eq, at_, hβ]
  rfl
theorem Sl.np {w : World} {v : Value} {b o n u d f : Nat} (h : Sl w v b o n u d f) {s : Nums} {β : Places} {r i j : Nat} (hβ : β r = (b, o)) (h0 : s i = n) (h1 : s j = f) : Flag w (β r) (s i) (s j) := by
  rw [hβ, h0, h1]
  exact h.flag

/-- A slice of bytes is a point: its bytes. -/
inductive PtOf (w : World) (v : Value) : Prop where
  | far (b o c : Nat) (hv : v = .slice (some ⟨b, o, none⟩) 1 c) (hc : 1 ≤ c) (hp : w.cell? ⟨b, o, none⟩ = some (.int .u8 0))
  | on (b o c x y : Nat) (hv : v = .slice (some ⟨b, o, none⟩) 57 c) (hc : 57 ≤ c) (hp : PtBytes w b o x y) (hx : x < pq) (hy : y < pq) (hon : onN x y = 1)
theorem Sl.point {w : World} {v : Value} {b o n u d : Nat} (h : Sl w v b o n u d 1) : PtOf w v := by
  have hd : n ≠ 0 → v = .slice (some ⟨b, o, none⟩) n u := fun hn => by rw [h.eq, if_neg fun e => hn (h.nil e)]
  rcases h.flag.kinds with ⟨h1, h2, hfl⟩ | ⟨z, hn, hc, hz, hfl⟩ | ⟨g, hn, hc, h4, hfl⟩ | ⟨g, hn, h4, hc, hbg, hfl⟩ | ⟨x, y, hn, hp, hx, hy, hfl⟩
  · cases hfl
  · by_cases h0 : z = 0
    · subst h0
      subst hn
      exact .far b o u (hd (by decide)) h.le hc
    · rw [if_neg h0] at hfl; cases hfl
  · cases hfl
  · cases hfl
  · subst hn
    exact .on b o u x y (hd (by decide)) h.le hp hx hy hfl.symm

def fixN (nt n : Nat) (d : List (Nat × Bool)) (np : List (Nat × (Nat × Nat))) : Fix := { nt := nt, nold := n, wr := fun _ => false, sep := fun _ _ => false, dec := fun i => findT i d, np := fun r => findT r np }

/-- What a law must do. -/
abbrev Law (f : Nat) (w : World) (vs : List Value) : Prop := Calls Try.prog f vs.toArray w fun e w' => e = .returned (.bool true) ∧ Below w.heap.size w w'

/-- A law with one slice that is no point, or too long: by two runs. -/
theorem law_one {g : FuncId} {fn : Func} {nt : Nat} {xs : List (Nat × X)} (hx : XsOk xs)
    (run1 : briefR (tabZ xs) fn [] (runF (tabZ xs) (fixN nt 1 [(4, true)] [(0, (0, 3))]) 3000 fn (startSt [.one (.sy 0 0)] [] 4 1)) = some ⟨.ret, 5, [.op 3 [.c 2147483647, .v 0]], [], [.one (.lit (.bool true))], []⟩)
    (run2 : briefR (tabZ xs) fn [] (runF (tabZ xs) (fixN nt 1 [(4, false), (3, false), (5, true)] [(0, (0, 3))]) 3000 fn (startSt [.one (.sy 0 0)] [] 4 1)) = some ⟨.ret, 6, [.feq (.v 3) (.c 0), .op 3 [.c 2147483647, .v 0]], [], [.one (.lit (.bool true))], []⟩)
    (hf : Try.prog.funcs[g]? = some fn) (hnt : fn.ntmps = nt) (h1 : 1 ≤ nt) {w : World} {v : Value} {b o n u d f : Nat} (h : Sl w v b o n u d f) (hbad : 2147483647 < n ∨ f = 0) : Law g w [v] := by
  have hs : sgn 2147483647 = 2147483647 := by decide
  have hsn : sgn n = n := by unfold sgn; rw [if_pos h.n63]
  let s0 : Nums := fun i => if i = 0 then n else if i = 1 then u else if i = 2 then d else f
  by_cases hl : 2147483647 < n
  · refine calls_briefR (F := fixN nt 1 [(4, true)] [(0, (0, 3))]) (tabZ_ok hx) run1 hf hnt rfl (by decide +kernel) (by decide +kernel) (by decide +kernel) h1 (show 1 < 4095 by decide) s0 (fun _ => (b, o))
      (vals := [v]) (fun s hs => ⟨h.rep rfl (show 0 < 1 by decide) (hs 0 (by decide)) (hs 1 (by decide)) (hs 2 (by decide)), trivial⟩) (fun s hs => trivial) (fun r l hl hr => by cases hr) (fun r _ => h.lt) (fun r q _ _ h => by cases h) ?_ ?_ ?_
    · intro s hs' hH i bb hb
      obtain ⟨rfl, rfl⟩ := dec1 hb
      have e : s 4 = if sgn 2147483647 < sgn (s 0) then 1 else 0 := hH.1
      rw [hs' 0 (by decide)] at e
      rw [show s0 0 = n from rfl, hs, hsn, if_pos (by omega)] at e
      exact e
    · intro s hs hH st' β' a' w' v' hv' hm hag hr hbe
      have hv2 : v' = .bool true := hv'
      exact ⟨by rw [hv2], hbe⟩
    · intro s hs r i j hh
      have := findT_mem hh
      simp only [List.mem_cons, List.not_mem_nil, or_false, Prod.mk.injEq] at this
      obtain ⟨rfl, rfl, rfl⟩ := this
      exact ⟨show 0 < 1 by decide, h.np rfl (hs 0 (by decide)) (hs 3 (by decide))⟩
  · have hf0 : f = 0 := by omega
    refine calls_briefR (F := fixN nt 1 [(4, false), (3, false), (5, true)] [(0, (0, 3))]) (tabZ_ok hx) run2 hf hnt rfl (by decide +kernel) (by decide +kernel) (by decide +kernel) h1 (show 1 < 4095 by decide) s0 (fun _ => (b, o))
      (vals := [v]) (fun s hs => ⟨h.rep rfl (show 0 < 1 by decide) (hs 0 (by decide)) (hs 1 (by decide)) (hs 2 (by decide)), trivial⟩) (fun s hs => trivial) (fun r l hl hr => by cases hr) (fun r _ => h.lt) (fun r q _ _ h => by cases h) ?_ ?_ ?_
    · intro s hs' hH i bb hb
      have e : s 4 = if sgn 2147483647 < sgn (s 0) then 1 else 0 := hH.2.1
      have e5 : s 5 = if s 3 = 0 then 1 else 0 := hH.1
      have e3 : s 3 = 0 := (hs' 3 (by decide)).trans hf0
      rw [hs' 0 (by decide)] at e
      rw [show s0 0 = n from rfl, hs, hsn, if_neg (by omega)] at e
      rw [if_pos e3] at e5
      have := findT_mem (show findT i [(4, false), (3, false), (5, true)] = some bb from hb)
      simp only [List.mem_cons, List.not_mem_nil, or_false, Prod.mk.injEq] at this
      rcases this with ⟨rfl, rfl⟩ | ⟨rfl, rfl⟩ | ⟨rfl, rfl⟩
      · exact e
      · exact e3
      · exact e5
    · intro s hs hH st' β' a' w' v' hv' hm hag hr hbe
      have hv2 : v' = .bool true := hv'
      exact ⟨by rw [hv2], hbe⟩
    · intro s hs r i j hh
      have := findT_mem hh
      simp only [List.mem_cons, List.not_mem_nil, or_false, Prod.mk.injEq] at this
      obtain ⟨rfl, rfl, rfl⟩ := this
      exact ⟨show 0 < 1 by decide, h.np rfl (hs 0 (by decide)) (hs 3 (by decide))⟩
end P224
