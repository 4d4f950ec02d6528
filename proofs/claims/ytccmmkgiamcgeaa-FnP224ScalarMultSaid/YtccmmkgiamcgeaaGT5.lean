/- A drawn region up to a point. -/
import Derived.Test.YtccmmkgiamcgeaaGT3
set_option linter.all false
namespace P224
open Go Go.RowKit Go.Proofs
set_option maxRecDepth 100000
set_option linter.unusedVariables false

/-- As 'drawn', up to the point where those of 'stop' have come up. -/
def drawnTo (T : Tab) (F : Fix) (L : Nat → Bool) (n0 : Nat) (m0 : List (Nat × List A0)) (ops : Array Oper) (stop : Array Bool) : Nat → Array Bool → St → Option St
  | 0, _, _ => none
  | f + 1, listed, st => bif decide (listed = stop) then canon n0 ops st else
    match Region.ready .any ops listed with
    | [] => none
    | r :: rs =>
      match pickQuiet T F L st ops listed (r :: rs) with
      | some (i, st') => drawnTo T F L n0 m0 ops stop f (listed.setIfInBounds i true) st'
      | none => agreed ((r :: rs).map fun i => match ops[i]? with
          | some o => match step T F (fun _ => true) ops st o with
            | some st' => bif keeps L m0 st'.mem then drawnTo T F L n0 m0 ops stop f (listed.setIfInBounds i true) st' else none
            | none => none
          | none => none)

section
variable {P : Program} {T : Tab} {s : Nums} {β : Places} {F : Fix} {w0 : World} {st : St} {a : Act} {w : World}

theorem drawnTo_grows (hT : T.Ok P) {L : Nat → Bool} {n0 : Nat} {m0 : List (Nat × List A0)} {ops : Array Oper} {stop : Array Bool} : ∀ {f : Nat} {listed : Array Bool} {st st' : St}, drawnTo T F L n0 m0 ops stop f listed st = some st' → Grows st st'
  | 0, listed, st, st', h => by cases h
  | f + 1, listed, st, st', h => by
    rw [drawnTo, cond_eq_ite] at h
    split at h
    · obtain ⟨h1, h2, h3⟩ := canon_grows h
      exact ⟨⟨[], by rw [h1]; rfl, by rw [h2]; rfl⟩, by rw [h3]; exact Nat.le_refl _⟩
    · split at h
      · cases h
      · rename_i r rs _
        split at h
        · rename_i i st1 hi
          obtain ⟨_, o, _, _, _, h1⟩ := pickQuiet_spec hi
          exact (step_grows hT h1).trans (drawnTo_grows hT h)
        · have := agreed_spec h _ (List.mem_map.2 ⟨r, List.mem_cons_self, rfl⟩)
          split at this
          · split at this
            · rename_i h1
              obtain ⟨_, h2⟩ := bif_some this
              exact (step_grows hT h1).trans (drawnTo_grows hT h2)
            · cases this
          · cases this

theorem drawnTo_wp (hT : T.Ok P) {L : Nat → Bool} {ops : Array Oper} {stop : Array Bool} {Q : Exit → Act → World → Prop} {β0 : Places} {n0 : Nat} {m0 : List (Nat × List A0)}
    (hm0 : ∀ r l, lookup r m0 = some l → r < n0 ∧ ∀ x ∈ l, (∀ q o, x = .ptr q o → q < n0) ∧ (∀ q o m c, x = .slc q o m c → q < n0) ∧ (∀ q o m, x = .sl q o m → q < n0) ∧ (∀ q o m i, x = .sv q o m i → q < n0) ∧ ∀ q i, x = .sy q i → q < n0) (hL0 : ∀ r, L r = true → ∃ l, lookup r m0 = some l) (hsel : Region.noSelect ops = true)
    (hQ : ∀ (d : Option Tmp) v c a w, Q (.panic c) (Act.put a d v) w → Q (.panic c) a w) (hno : F.nold ≤ n0) (k : Nat) :
    ∀ {f : Nat} {listed : Array Bool} {β : Places} {st st' : St} {a : Act} {w : World}, Rel F s β w0 st a w → drawnTo T F L n0 m0 ops stop f listed st = some st' → Holds s st'.nx st'.exs →
    Agree β0 β n0 → n0 ≤ st.nr → keeps L m0 st.mem = true → (∀ r, L r = true → lookup r st.mem = lookup r m0) →
    (∀ f' β' a' w', Agree β0 β' n0 → Rel F s β' w0 st' a' w' → Stay s β0 n0 L m0 w' → wpAnyH P .any ops Q (Stay s β0 n0 L m0) (f' + 1 + k) stop a' w') → wpAnyH P .any ops Q (Stay s β0 n0 L m0) (f + k) listed a w := by
  have stay : ∀ {β : Places} {st : St} {a : Act} {w : World}, Rel F s β w0 st a w → Agree β0 β n0 → n0 ≤ st.nr → keeps L m0 st.mem = true → Stay s β0 n0 L m0 w := by
    intro β st a w h hag hn hk r l hL hl
    obtain ⟨hr, hp⟩ := hm0 r l hl
    obtain ⟨_, hc⟩ := h.mem r l (keeps_spec hk hL hl)
    refine CellsOk.back hag hr (fun x hx v hv => ?_) hc
    cases x with
    | ptr q o =>
      have hq := (hp _ hx).1 q o rfl
      refine ⟨?_, hq⟩
      rw [hv.1, at_, at_, hag q hq]
    | slc q o m c =>
      have hq := (hp _ hx).2.1 q o m c rfl
      refine ⟨?_, hq⟩
      rw [hv.1, at_, at_, hag q hq]
    | sl q o m =>
      have hq := (hp _ hx).2.2.1 q o m rfl
      obtain ⟨c, h1, h2, _⟩ := hv
      refine ⟨c, h1, ?_, hq⟩
      rw [h2, at_, at_, hag q hq]
    | sv q o m i =>
      have hq := (hp _ hx).2.2.2.1 q o m i rfl
      refine ⟨?_, hv.2.1, hq⟩
      rw [hv.1, at_, at_, hag q hq]
    | sy q i =>
      have hq := (hp _ hx).2.2.2.2 q i rfl
      exact ⟨by rw [hv.1, syV, syV, at_, at_, hag q hq], hq, hv.2.2⟩
    | any => trivial
    | _ => exact hv
  have reads : ∀ {β : Places} {st : St}, Agree β0 β n0 → n0 ≤ st.nr → (∀ r, L r = true → lookup r st.mem = lookup r m0) → ∀ w, Stay s β0 n0 L m0 w → Reads s β st.nr L st.mem w := by
    intro β st hag hn hsame w hw r l hL hl
    rw [hsame r hL] at hl
    intro j x hx
    obtain ⟨v, h1, h2⟩ := hw r l hL hl j x hx
    refine ⟨v, ?_, A0.rep_mono hag hn h2⟩
    rw [at_, hag r (hm0 r l hl).1]
    exact h1
  intro f
  induction f with
  | zero => intro listed β st st' a w h hd; cases hd
  | succ f ih =>
    intro listed β st st' a w h hd hH hag hn hk hsame hnext
    rw [drawnTo, cond_eq_ite] at hd
    split at hd
    · rename_i hls
      have hls := of_decide_eq_true hls
      subst hls
      obtain ⟨β', g1, g2⟩ := canon_rel hd h hn hno
      exact hnext _ β' a w (hag.trans g1 (Nat.le_refl _)) g2 (stay h hag hn hk)
    · rw [show f + 1 + k = (f + k) + 1 by omega]
      split at hd
      · cases hd
      · rename_i r0 rs0 hne
        split at hd
        · rename_i i st1 hi
          obtain ⟨hmem, o, ho, hq, hfree, h1⟩ := pickQuiet_spec hi
          rw [← hne] at hmem
          have hg := drawnTo_grows hT hd
          have hH1 := hg.le.holds hH
          have hS := stay h hag hn hk
          rcases step_cases h1 with ⟨hw, ⟨_, v, l, hl, h1'⟩ | ⟨hq', _⟩⟩ | ⟨hw, h1'⟩
          · obtain ⟨e1, e2, e3, e4⟩ := put_st h1'
            rw [e1, e2] at hH1
            obtain ⟨x, hx, hrun⟩ := quiet_rep hT h.dec hl h.tm hH1 (reads hag hn hsame w hS)
            have hrel := (h.nums _ _).put h1' hx
            refine wpAnyH_take ho hsel hfree (by simpa using hmem) (fun c a w => hQ _ _ c a w) (.inl ⟨wants_rep h hw, fun w' hw' => hrun w' (reads hag hn hsame w' hw')⟩) hS ?_
            exact ih hrel hd hH hag (by rw [e3]; exact hn) (by rw [e4]; exact hk) (fun r hr => by rw [e4]; exact hsame r hr) hnext
          · rw [hq] at hq'
            cases hq'
          · obtain ⟨e1, e2, e3, e4⟩ := put_st h1'
            have hrel := h.put h1' (x := undef) rfl
            refine wpAnyH_take ho hsel hfree (by simpa using hmem) (fun c a w => hQ _ _ c a w) (.inr ⟨wants_rep h hw, rfl⟩) hS ?_
            exact ih hrel hd hH hag (by rw [e3]; exact hn) (by rw [e4]; exact hk) (fun r hr => by rw [e4]; exact hsame r hr) hnext
        · refine wpAnyH_all hne (by simp) fun j hj => ?_
          have hj' := agreed_spec hd _ (List.mem_map.2 ⟨j, hj, rfl⟩)
          split at hj'
          · rename_i o ho
            split at hj'
            · rename_i st1 h1
              obtain ⟨hkk, hd2⟩ := bif_some hj'
              have hg := drawnTo_grows hT hd2
              have hH1 := hg.le.holds hH
              unfold wpOp
              rw [ho]
              have fin : ∀ β' a' w', Agree β β' st.nr → Rel F s β' w0 st1 a' w' → Stay s β0 n0 L m0 w' ∧ wpAnyH P .any ops Q (Stay s β0 n0 L m0) (f + k) (listed.setIfInBounds j true) a' w' := fun β' a' w' hag' hr' => by
                have hag2 : Agree β0 β' n0 := hag.trans hag' hn
                have hn2 : n0 ≤ st1.nr := Nat.le_trans hn (step_grows hT h1).nr
                refine ⟨stay hr' hag2 hn2 hkk, ?_⟩
                refine ih hr' hd2 hH hag2 hn2 hkk (fun r hL => ?_) hnext
                obtain ⟨l, hl⟩ := hL0 r hL
                rw [hl]
                exact keeps_spec hkk hL hl
              rcases step_wants h1 with hw | ⟨hw, hp⟩
              · simp only [wants_rep h hw, if_true]
                exact .inl (step_wp hT h h1 hw hH1 fin)
              · simp only [wants_rep h hw, Bool.false_eq_true, if_false]
                exact fin β _ _ (Agree.refl _ _) (h.put hp (x := undef) rfl)
            · cases hj'
          · cases hj'
end
end P224
/- The reference's points written: what it does. -/
namespace P224
open Go Go.RowKit Go.Proofs
set_option maxRecDepth 100000
set_option linter.unusedVariables false

def seqL : Code → Code
  | .seq a _ => a
  | c => c
def seqR : Code → Code
  | .seq _ b => b
  | c => c
def regOps : Code → Array Oper
  | .region _ ops _ => ops
  | _ => #[]
def regId : Code → Nat
  | .region i _ _ => i
  | _ => 0
noncomputable def code23 : Code := (Try.f23.body).getD .skip
noncomputable def A23 : Code := seqL code23
noncomputable def B23 : Code := seqL (seqR code23)
noncomputable def ops23 : Array Oper := regOps (seqL (seqR (seqR code23)))
noncomputable def id23 : Nat := regId (seqL (seqR (seqR code23)))
theorem body23 : Try.f23.body = some (.seq A23 (.seq B23 (.seq (.region id23 ops23 true) .ret))) := by kernel_rfl

noncomputable def xs23 : List (Nat × X) := [(41, x41)]
theorem xs23_ok : XsOk xs23 := xcons_ok x41_ok xnil_ok
noncomputable def tab23 : Tab := tabX true [] xs23
theorem tab23_ok : tab23.Ok Try.prog := tabX_ok noPrims_ok xs23_ok
def fix23 : Fix := fixD 19 3 [] [] [(4, true)]
def st23 : St := startSt [curveAV 0, .agg [.lit (.bool false), .sv 1 0 7 2, .sv 2 0 7 3]] [(0, foldCells), (1, l32s 0), (2, l32s 1)] 4 3
noncomputable def outSt (r : Option (Out × St)) : St := match r with
  | some (_, st) => st
  | none => startSt [] [] 0 0
noncomputable def st23A : St := outSt (run tab23 fix23 50 A23 st23)
noncomputable def st23B : St := outSt (run tab23 fix23 50 B23 st23A)
def stop23 : Array Bool := #[true, true, true, true, true, false, true, true, true, false, false, false]
noncomputable def L23 (r : Nat) : Bool := (lookup r st23B.mem).isSome
noncomputable def st23C : St := (drawnTo tab23 fix23 L23 st23B.nr st23B.mem ops23 stop23 9 (Array.replicate 12 false) st23B).getD (startSt [] [] 0 0)

theorem runA23 : run tab23 fix23 50 A23 st23 = some (.normal, st23A) := by kernel_rfl
theorem runB23 : run tab23 fix23 50 B23 st23A = some (.normal, st23B) := by kernel_rfl
theorem runC23 : drawnTo tab23 fix23 L23 st23B.nr st23B.mem ops23 stop23 9 (Array.replicate 12 false) st23B = some st23C := by kernel_rfl
theorem exsA23 : st23A.exs = [] ∧ st23A.nx = 4 := by constructor <;> kernel_rfl
theorem exsB23 : st23B.exs = [] ∧ st23B.nx = 4 := by constructor <;> kernel_rfl
theorem exsC23 : st23C.exs = [.op 4 [.v 0, .c pq]] ∧ st23C.nx = 5 := by constructor <;> kernel_rfl
noncomputable def o23 (i : Nat) : Oper := ops23.getD i ⟨none, .move (.const .nilIface), 0, "", #[], none⟩
theorem get23_5 : ops23[5]? = some (o23 5) := by kernel_rfl
theorem get23_9 : ops23[9]? = some (o23 9) := by kernel_rfl
theorem get23_10 : ops23[10]? = some (o23 10) := by kernel_rfl
theorem get23_11 : ops23[11]? = some (o23 11) := by kernel_rfl
theorem op23_5 : (o23 5).op = .call { callee := .builtin .append, args := #[.tmp 8, .tmp 12], argTypes := #[27, 27] } := by kernel_rfl
theorem op23_9 : (o23 9).op = .call { callee := .value (.func 41), args := #[.tmp 14, .tmp 16], argTypes := #[25, 33] } := by kernel_rfl
theorem op23_10 : (o23 10).op = .call { callee := .builtin .append, args := #[.tmp 13, .tmp 17], argTypes := #[27, 27] } := by kernel_rfl
theorem op23_11 : (o23 11).op = .assign (.tmp 18) := by kernel_rfl
theorem gd23 : (o23 5).guard = none ∧ (o23 9).guard = none ∧ (o23 10).guard = none ∧ (o23 11).guard = none := by refine ⟨?_, ?_, ?_, ?_⟩ <;> kernel_rfl
theorem ds23 : (o23 5).dst = some 13 ∧ (o23 9).dst = some 17 ∧ (o23 10).dst = some 18 ∧ (o23 11).dst = some 4 := by refine ⟨?_, ?_, ?_, ?_⟩ <;> kernel_rfl
def stop23a : Array Bool := stop23.setIfInBounds 5 true
def stop23b : Array Bool := stop23a.setIfInBounds 9 true
def stop23c : Array Bool := stop23b.setIfInBounds 10 true
def stop23d : Array Bool := stop23c.setIfInBounds 11 true
theorem rdy23 : Region.ready .any ops23 stop23 = [5] ∧ Region.ready .any ops23 stop23a = [9] ∧ Region.ready .any ops23 stop23b = [10] ∧ Region.ready .any ops23 stop23c = [11] ∧ Region.ready .any ops23 stop23d = [] := by
  refine ⟨?_, ?_, ?_, ?_, ?_⟩ <;> kernel_rfl
theorem tm23 : st23C.tm.get 8 = some (.one (.slc 6 0 1 1)) ∧ st23C.tm.get 12 = some (.one (.slc 5 0 28 28)) ∧ st23C.tm.get 14 = some (curveAV 0) ∧ st23C.tm.get 16 = some (.one (.sv 2 0 7 3)) := by refine ⟨?_, ?_, ?_, ?_⟩ <;> kernel_rfl
theorem mem23 : cellsAt st23C.mem 6 0 1 = some [.lit (.int .u8 4)] ∧ cellsAt st23C.mem 5 0 28 = some (byts down 0) := by refine ⟨?_, ?_⟩ <;> kernel_rfl
theorem cur23 : isCurve st23C (curveAV 0) = some (0, 0) := by kernel_rfl
theorem el23 : elS st23C.mem 2 0 = some (.v 1) := by kernel_rfl
theorem size23 : ops23.size = 12 := by kernel_rfl
theorem sel23 : Region.noSelect ops23 = true := by kernel_rfl
theorem res23 : Try.f23.results = #[.tmp 4] := by kernel_rfl
theorem kp23 : keeps L23 st23B.mem st23B.mem = true := by kernel_rfl
theorem nr23 : st23B.nr = 5 := by kernel_rfl

theorem wanted_none {o : Oper} (h : o.guard = none) (y : Nat → Option Bool) : Region.wanted o y = true := by
  unfold Region.wanted
  rw [h]
theorem put_same {a : Act} {t : Nat} {v : Value} (h : t < a.tmps.size) : (a.put (some t) v).tmps.getD t undef = v := by
  simp [Act.put, Array.getD, h]
theorem put_other {a : Act} {t u : Nat} {v : Value} (h : u ≠ t) : (a.put (some t) v).tmps.getD u undef = a.tmps.getD u undef := by
  simp only [Act.put, Array.getD_eq_getD_getElem?]
  rw [Array.getElem?_setIfInBounds_ne (Ne.symm h)]
theorem put_size {a : Act} {t : Nat} {v : Value} : (a.put (some t) v).tmps.size = a.tmps.size := by simp [Act.put]
theorem put_defs {a : Act} {t : Nat} {v : Value} : (a.put (some t) v).defers = a.defers := rfl

theorem Stay.below {s : Nums} {β : Places} {n B : Nat} {L : Nat → Bool} {m : List (Nat × List A0)} {w w' : World} (h : Stay s β n L m w) (hB : w.heap.size ≤ B) (hb : Below B w w') : Stay s β n L m w' := by
  intro r l hL hl j x hx
  obtain ⟨v, h1, h2⟩ := h r l hL hl j x hx
  refine ⟨v, ?_, h2⟩
  rw [World.cell?_of_block (hb.block _ (Nat.lt_of_lt_of_le (World.block_lt_of_cell? w _ h1) hB))]
  exact h1
theorem owns_below {w w' : World} {base e size n : Nat} {v : Value} {xs : List Value} (h : w.ownsRow base e size v n xs) (hb : Below w.heap.size w w') : w'.ownsRow base e size v n xs := by
  refine ⟨h.1, ?_⟩
  rcases h.2 with h2 | ⟨g, cap, cur, h1, h2, h3, h4⟩
  · exact .inl h2
  · refine .inr ⟨g, cap, cur, h1, h2, ?_, h4⟩
    have hlt : g < w.heap.size := by
      by_cases hc : g < w.heap.size
      · exact hc
      · rw [Array.getElem?_eq_none (by omega)] at h3
        cases h3
    rw [hb.block g hlt, h3]

theorem FoldsAt.below {w w' : World} {bf of : Nat} (h : FoldsAt w bf of) (hb : Below w.heap.size w w') : FoldsAt w' bf of := by
  have hl : bf < w.heap.size := World.block_lt_of_cell? w _ h.1
  have e := fun o => World.cell?_of_block (w := w) (w' := w') (a := ⟨bf, o, none⟩) (hb.block bf hl)
  obtain ⟨h1, h2, h3, h4⟩ := h
  exact ⟨by rw [e]; exact h1, by rw [e]; exact h2, by rw [e]; exact h3, by rw [e]; exact h4⟩
theorem El.below {w w' : World} {b o x : Nat} (h : El w b o x) (hb : Below w.heap.size w w') : El w' b o x := by
  have hl : b < w.heap.size := World.block_lt_of_cell? w _ (h.1 0 (by decide))
  refine ⟨fun k hk => ?_, h.2⟩
  rw [World.cell?_of_block (w := w) (w' := w') (hb.block b hl)]
  exact h.1 k hk

/-- The bytes of a point. -/
def pvals (x y : Nat) : List Nat := 4 :: ((List.range 28).map (fun k => by8 (27 - k) x) ++ (List.range 28).map fun k => by8 (27 - k) y)
theorem pvals_len (x y : Nat) : (pvals x y).length = 57 := by simp [pvals]
def bvals (y : Nat) : List Value := (List.range 28).map fun k => .int .u8 (by8 (27 - k) y : Int)
theorem pvals_map (x y : Nat) : (pvals x y).map (fun (z : Nat) => Value.int .u8 (z : Int)) = ([.int .u8 4] ++ bvals x) ++ bvals y := by
  simp [pvals, bvals, List.map_map, Function.comp_def]
/-- A new slice that holds a point's bytes. -/
def NewPt (w : World) (x y : Nat) (v : Value) (w' : World) : Prop :=
  ∃ b c, w.heap.size ≤ b ∧ b < w'.heap.size ∧ 57 ≤ c ∧ v = .slice (some ⟨b, 0, none⟩) 57 c ∧ (∀ (k z : Nat), (pvals x y)[k]? = some z → w'.cell? ⟨b, k, none⟩ = some (.int .u8 (z : Int))) ∧ (∀ k, k < 57 → w'.frozen? ⟨b, k, none⟩ = false) ∧ Below w.heap.size w w'

theorem bvals_get {w : World} {b y : Nat} (h : ∀ k, k < 28 → w.cell? ⟨b, k, none⟩ = some (.int .u8 (by8 (27 - k) y : Int))) (j : Nat) (u : Value) (hu : (bvals y)[j]? = some u) : w.cell? ((⟨b, 0, none⟩ : Addr).add j) = some u := by
  have hj : j < 28 := by
    have := (List.getElem?_eq_some_iff.1 hu).1
    simpa [bvals] using this
  rw [bvals, List.getElem?_map, List.getElem?_range hj] at hu
  cases hu
  have := h j hj
  unfold Addr.add
  by_cases h0 : j = 0
  · subst h0; simpa using this
  · simpa [h0] using this

theorem meets23 (w : World) (bf of b1 o1 c1 b2 o2 c2 x y : Nat) (hc1 : 7 ≤ c1) (hc2 : 7 ≤ c2) (hfo : FoldsAt w bf of) (h1 : El w b1 o1 x) (h2 : El w b2 o2 y) (hx : x < pq) (hy : y < pq) :
    Meets Try.prog 23 #[curveV bf of, .agg #[.bool false, .slice (some ⟨b1, o1, none⟩) 7 c1, .slice (some ⟨b2, o2, none⟩) 7 c2]] w (NewPt w x y) := by
  refine meets_of_calls Try.func23 (by kernel_rfl) (by kernel_rfl) ?_
  let s : Nums := fun i => match i with | 0 => x | 1 => y | 2 => c1 | 3 => c2 | _ => if x < pq then 1 else 0
  let β : Places := fun r => if r = 0 then (bf, of) else if r = 1 then (b1, o1) else (b2, o2)
  have hC : Holds s st23C.nx st23C.exs := by
    rw [exsC23.1, exsC23.2]
    exact ⟨rfl, trivial⟩
  have hA : Holds s st23A.nx st23A.exs := by rw [exsA23.1]; trivial
  have hB : Holds s st23B.nx st23B.exs := by rw [exsB23.1]; trivial
  have hdec : Dec fix23 s := by
    intro i bb hb
    have hb' : findT i [(4, true)] = some bb := hb
    have := findT_mem hb'
    simp only [List.mem_cons, List.not_mem_nil, or_false, Prod.mk.injEq] at this
    obtain ⟨rfl, rfl⟩ := this
    show (if x < pq then 1 else 0) = _
    rw [if_pos hx]
    rfl
  have hargs : ArgsOk s β fix23.nold [curveAV 0, .agg [.lit (.bool false), .sv 1 0 7 2, .sv 2 0 7 3]] [curveV bf of, .agg #[.bool false, .slice (some ⟨b1, o1, none⟩) 7 c1, .slice (some ⟨b2, o2, none⟩) 7 c2]] := by
    refine ⟨curve_rep rfl (show 0 < 3 by decide), ⟨[.bool false, .slice (some ⟨b1, o1, none⟩) 7 c1, .slice (some ⟨b2, o2, none⟩) 7 c2], rfl, rfl, fun j a v ha hv => ?_⟩, trivial⟩
    match j, ha, hv with
    | 0, ha, hv => cases ha; cases hv; exact rfl
    | 1, ha, hv => cases ha; cases hv; exact ⟨rfl, hc1, show 1 < 3 by decide⟩
    | 2, ha, hv => cases ha; cases hv; exact ⟨rfl, hc2, show 2 < 3 by decide⟩
    | j + 3, ha, hv => cases ha
  have hmem : MemOk s β fix23.nold w [(0, foldCells), (1, l32s 0), (2, l32s 1)] := ⟨show 0 < 3 by decide, fold_row rfl hfo, show 1 < 3 by decide, l32_row rfl h1 rfl, show 2 < 3 by decide, l32_row rfl h2 rfl, trivial⟩
  obtain ⟨hlen, hget⟩ := hargs.get
  have hstart : Rel fix23 s β w st23 { tmps := #[curveV bf of, .agg #[.bool false, .slice (some ⟨b1, o1, none⟩) 7 c1, .slice (some ⟨b2, o2, none⟩) 7 c2]] ++ Array.replicate (Try.f23.ntmps - 2) undef, defers := [] } w :=
    rel_start (ntmps := Try.f23.ntmps) hlen Try.ntmps23 (show 2 ≤ 19 by decide) (show 2 < 4095 by decide) hget hmem.get (fun r l hl hr => by cases hr) (fun r _ => by
      show (if r = 0 then (bf, of) else if r = 1 then (b1, o1) else (b2, o2)).1 < _
      split
      · exact hfo.lt
      · split
        · exact World.block_lt_of_cell? w _ (h1.1 0 (by decide))
        · exact World.block_lt_of_cell? w _ (h2.1 0 (by decide))) (fun r q _ _ h => by cases h) hdec
  refine calls_of_wp Try.func23 body23 ?_
  refine wp_seq (run_wp tab23_ok hstart runA23 hA fun β1 a1 w1 g1 r1 => ?_)
  show (Code.seq B23 _).wp _ _ a1 w1
  refine wp_seq (run_wp tab23_ok r1 runB23 hB fun β2 a2 w2 g2 r2 => ?_)
  show (Code.seq _ _).wp _ _ a2 w2
  refine wp_seq ?_
  refine wp_mono (Q := Norm _) ?_ Norm.imp
  refine wp_region_held (S := Stay s β2 st23B.nr L23 st23B.mem) tab23_ok.mixed ?_
  rw [size23]
  refine drawnTo_wp tab23_ok (f := 9) (stop := stop23) ?_ (fun r hL => Option.isSome_iff_exists.1 hL) sel23 (fun d v c a w hh => hh.elim) (by rw [nr23]; decide) 3 (drew_rel r2) runC23 hC (Agree.refl _ _) (Nat.le_refl _) kp23 (fun _ _ => rfl) ?_
  · intro r l hl
    obtain ⟨hrn, hc⟩ := r2.mem r l hl
    refine ⟨hrn, fun x hx => ?_⟩
    obtain ⟨j, hj⟩ := List.getElem?_of_mem hx
    obtain ⟨v, _, hv⟩ := hc j x hj
    refine ⟨fun q o e => ?_, fun q o m c e => ?_, fun q o m e => ?_, fun q o m i e => ?_, fun q i e => ?_⟩ <;> subst e
    · exact hv.2
    · exact hv.2
    · obtain ⟨_, _, _, h⟩ := hv; exact h
    · exact hv.2.2
    · exact hv.2.1
  intro f' β3 a3 w3 g3 r3 hS3
  obtain ⟨t8, t12, t14, t16⟩ := tm23
  obtain ⟨d5, d9, d10, d11⟩ := ds23
  obtain ⟨q5, q9, q10, q11⟩ := gd23
  obtain ⟨y5, y9, y10, y11, y12⟩ := rdy23
  have hsz : a3.tmps.size = 19 := r3.size
  have hw3 : Below w.heap.size w w3 := by
    have hb := r3.below
    have ho : st23C.out = [] := by kernel_rfl
    rw [ho] at hb
    exact hb
  have e8 : a3.tmps.getD 8 undef = .slice (some (at_ β3 6 0)) 1 1 := (r3.tm 8 _ t8).1
  have e12 : a3.tmps.getD 12 undef = .slice (some (at_ β3 5 0)) 28 28 := (r3.tm 12 _ t12).1
  obtain ⟨e14, f14, _⟩ := isCurve_rep r3 cur23 (r3.tm 14 _ t14)
  have e16 : a3.tmps.getD 16 undef = .slice (some (at_ β3 2 0)) 7 c2 := (r3.tm 16 _ t16).1
  have k16 : El w3 (β3 2).1 ((β3 2).2 + 0) y := elS_rep r3 el23
  obtain ⟨m1, m2, m3, m4⟩ := cells_vals r3 mem23.1 (fun x hx => by rw [List.mem_singleton.1 hx]; rfl)
  obtain ⟨n1, n2, n3, n4⟩ := cells_vals r3 mem23.2 (fun x hx => by obtain ⟨j, _, rfl⟩ := List.mem_map.1 hx; rfl)
  obtain ⟨ib, hi, hi1, hi2, hi3⟩ := byte_info
  -- the first append
  obtain ⟨v13, w4, hrun5, hown5, hgr5⟩ := run_append_arg_grows (P := Try.prog) (w := w3) 27 (o23 5).type 5 ib (.int .u8 0) 1 1 Try.underlying27 hi hi3 hi1 hi2 rfl (by decide)
    (at_ β3 6 0) 1 1 [.int .u8 4] rfl m2 (at_ β3 5 0) 28 28 (bvals x) (by simp [bvals]) n2 (by decide) (by decide) (by decide)
  have b4 : Below w3.heap.size w3 w4 := ⟨hgr5.os, hgr5.tape, hgr5.output, hgr5.size, fun k hk => hgr5.block k hk (fun e => by cases e)⟩
  have hrun5' : (execOp a3.eval (o23 5)).run Try.prog w3 = .ok (.value v13) w4 := by
    have e8' : a3.eval (.tmp 8) = .slice (some (at_ β3 6 0)) 1 1 := e8
    have e12' : a3.eval (.tmp 12) = .slice (some (at_ β3 5 0)) 28 28 := e12
    simp only [execOp, op23_5, resolve, Sem.run_bind, Sem.run_pure, Result.andThen, invoke, builtin, List.map_toArray, List.map_cons, List.map_nil, e8', e12', hrun5]
  refine wpAnyH_all y5 (by simp) fun i hi5 => ?_
  rw [List.mem_singleton.1 hi5]
  unfold wpOp
  rw [get23_5]
  simp only [wanted_none q5, if_true]
  refine .inl (upon_value_ok hrun5' ⟨hS3.below (Nat.le_refl _) b4, ?_⟩)
  rw [d5]
  -- the second number's bytes
  have hm := meets41 w4 (β3 0).1 ((β3 0).2 + 0) (β3 2).1 ((β3 2).2 + 0) c2 y hc2 (f14.below b4) (k16.below b4)
  refine wpAnyH_all y9 (by simp) fun i hi9 => ?_
  rw [List.mem_singleton.1 hi9]
  unfold wpOp
  rw [get23_9]
  simp only [wanted_none q9, if_true]
  have ea9 : ((a3.put (some 13) v13).eval (.tmp 14)) = curveV (β3 0).1 ((β3 0).2 + 0) := (put_other (by decide)).trans e14
  have eb9 : ((a3.put (some 13) v13).eval (.tmp 16)) = .slice (some ⟨(β3 2).1, (β3 2).2 + 0, none⟩) 7 c2 := (put_other (by decide)).trans e16
  refine .inl (call_wp (s := s) op23_9 rfl (by
    simp only [List.map_cons, List.map_nil, ea9, eb9]
    exact hm) fun v17 w5 hv17 => ?_)
  obtain ⟨b, hb1, hb2, rfl, hb3, hb4, b5⟩ := hv17
  have b35 : Below w3.heap.size w3 w5 := ⟨b5.os.trans b4.os, b5.tape.trans b4.tape, b5.output.trans b4.output, Nat.le_trans b4.size b5.size, fun k hk => (b5.block k (Nat.lt_of_lt_of_le hk b4.size)).trans (b4.block k hk)⟩
  refine ⟨hS3.below (Nat.le_refl _) b35, ?_⟩
  rw [d9]
  -- the second append
  have hown5' := owns_below hown5 b5
  obtain ⟨v18, w6, hrun6, hown6, hgr6, _⟩ := run_append_own (P := Try.prog) (w := w5) w3.heap.size 27 (o23 10).type 5 ib (.int .u8 0) 1 1 Try.underlying27 hi hi3 hi1 hi2 rfl (by decide)
    v13 (1 + 28) ([.int .u8 4] ++ bvals x) hown5' ⟨b, 0, none⟩ 28 28 (bvals y) (by simp [bvals]) (bvals_get hb3) (fun u hu => by obtain ⟨j, _, rfl⟩ := List.mem_map.1 hu; rfl) (by decide) (by decide) (Nat.le_trans b4.size b5.size)
  have b36 : Below w3.heap.size w3 w6 := ⟨hgr6.os.trans b35.os, hgr6.tape.trans b35.tape, hgr6.output.trans b35.output, Nat.le_trans b35.size hgr6.size, fun k hk => by
    rw [hgr6.block k (Nat.lt_of_lt_of_le hk b35.size) (fun e => ?_)]
    · exact b35.block k hk
    · rcases hown5.2 with ⟨rfl, _⟩ | ⟨g, cap, cur, rfl, hg, _⟩
      · cases e
      · cases e
        exact absurd hk (Nat.not_lt.2 hg)⟩
  refine wpAnyH_all y10 (by simp) fun i hi10 => ?_
  rw [List.mem_singleton.1 hi10]
  unfold wpOp
  rw [get23_10]
  simp only [wanted_none q10, if_true]
  have s1 : (a3.put (some 13) v13).tmps.size = 19 := by rw [put_size, hsz]
  have ea10 : ((a3.put (some 13) v13).put (some 17) (slice28 b 0)).eval (.tmp 13) = v13 := (put_other (by decide)).trans (put_same (by rw [hsz]; decide))
  have eb10 : ((a3.put (some 13) v13).put (some 17) (slice28 b 0)).eval (.tmp 17) = .slice (some ⟨b, 0, none⟩) 28 28 := put_same (by rw [s1]; decide)
  have hrun6' : (execOp ((a3.put (some 13) v13).put (some 17) (slice28 b 0)).eval (o23 10)).run Try.prog w5 = .ok (.value v18) w6 := by
    simp only [execOp, op23_10, resolve, Sem.run_bind, Sem.run_pure, Result.andThen, invoke, builtin, List.map_toArray, List.map_cons, List.map_nil, ea10, eb10, hrun6]
  refine .inl (upon_value_ok hrun6' ⟨hS3.below (Nat.le_refl _) b36, ?_⟩)
  rw [d10]
  refine wpAnyH_all y11 (by simp) fun i hi11 => ?_
  rw [List.mem_singleton.1 hi11]
  unfold wpOp
  rw [get23_11]
  simp only [wanted_none q11, if_true]
  have s2 : ((a3.put (some 13) v13).put (some 17) (slice28 b 0)).tmps.size = 19 := by rw [put_size, s1]
  have s3 : (((a3.put (some 13) v13).put (some 17) (slice28 b 0)).put (some 18) v18).tmps.size = 19 := by rw [put_size, s2]
  have ea11 : (((a3.put (some 13) v13).put (some 17) (slice28 b 0)).put (some 18) v18).eval (.tmp 18) = v18 := put_same (by rw [s2]; decide)
  have hrun7 : (execOp (((a3.put (some 13) v13).put (some 17) (slice28 b 0)).put (some 18) v18).eval (o23 11)).run Try.prog w6 = .ok (.value v18) w6 := by
    simp only [execOp, op23_11, Sem.run_pure, ea11]
  refine .inl (upon_value_ok hrun7 ⟨hS3.below (Nat.le_refl _) b36, ?_⟩)
  rw [d11]
  refine wpAnyH_done y12 ?_ _
  show Code.ret.wp _ _ _ _
  refine wp_ret (bodyPost_ret (results_tmp res23 _ _ _) r3.defs ?_)
  refine ⟨_, rfl, ?_⟩
  rw [put_same (by rw [s3]; decide)]
  obtain ⟨hlen6, hown6⟩ := hown6
  rcases hown6 with ⟨_, h0⟩ | ⟨g, cp, cur, rfl, hb, hcur, hle, _, hcsz, htake⟩
  · cases h0
  · have hlt : g < w6.heap.size := by
      by_cases h : g < w6.heap.size
      · exact h
      · rw [Array.getElem?_eq_none (by omega)] at hcur
        cases hcur
    refine ⟨g, cp, Nat.le_trans hw3.size hb, hlt, hle, rfl, fun k z hz => ?_, fun k hk => ?_, ?_⟩
    · have h1 : ((pvals x y).map (fun (z : Nat) => Value.int .u8 (z : Int)))[k]? = some (.int .u8 (z : Int)) := by rw [List.getElem?_map, hz]; rfl
      rw [pvals_map, ← htake] at h1
      have h2 : cur.toList[k]? = some (.int .u8 (z : Int)) := by
        have hj : k < (1 + 28 + 28) * 1 := by
          have := (List.getElem?_eq_some_iff.1 h1).1
          rw [List.length_take] at this
          omega
        rwa [List.getElem?_take_of_lt hj] at h1
      simp only [World.cell?, hcur]
      simpa using h2
    · simp [World.frozen?, hcur]
    · exact ⟨b36.os.trans hw3.os, b36.tape.trans hw3.tape, b36.output.trans hw3.output, Nat.le_trans hw3.size b36.size, fun k hk => (b36.block k (Nat.lt_of_lt_of_le hk hw3.size)).trans (hw3.block k hk)⟩
end P224
