/- The reference's inverse. -/
import Derived.Test.YtccmmkgiamcgeaaGS8
set_option linter.all false
namespace P224
open Go Go.RowKit Go.Proofs
set_option maxRecDepth 100000
set_option linter.unusedVariables false

noncomputable def xsP : List (Nat × X) := with1 (with1 [(59, x59)] [] 2000 54 Try.f54) [] 5000 83 Try.f83
noncomputable def xs58 : List (Nat × X) := with1 (with1 xsP [] 2000 65 Try.f65) [] 2000 82 Try.f82
theorem xsP_ok : XsOk xsP := with1_ok noPrims_ok (with1_ok noPrims_ok (xcons_ok x59_ok xnil_ok) Try.func54 (by kernel_rfl)) Try.func83 (by kernel_rfl)
theorem xs58_ok : XsOk xs58 := with1_ok noPrims_ok (with1_ok noPrims_ok xsP_ok Try.func65 (by kernel_rfl)) Try.func82 (by kernel_rfl)
theorem tab58_ok : (tabX true [] xs58).Ok Try.prog := tabX_ok noPrims_ok xs58_ok

/-- The products of a power: from bit i down; cur: what is there, n: the next number. -/
def powL (e : Nat) : Nat → Wd → Nat → List Ex → Wd × Nat × List Ex
  | 0, cur, n, acc => (cur, n, acc)
  | i + 1, cur, n, acc => bif e / 2 ^ i % 2 == 1 then powL e i (.v (n + 1)) (n + 2) (.fmul (.v n) (.v 0) :: .fmul cur cur :: acc) else powL e i (.v n) (n + 1) (.fmul cur cur :: acc)

theorem powL_holds {s : Nums} {e : Nat} : ∀ (i : Nat) (cur : Wd) (n : Nat) (acc : List Ex), Holds s (powL e i cur n acc).2.1 (powL e i cur n acc).2.2 → Holds s n acc
  | 0, cur, n, acc, h => h
  | i + 1, cur, n, acc, h => by
    rw [powL] at h
    cases hb : (e / 2 ^ i % 2 == 1) with
    | true =>
      rw [hb, cond_true] at h
      exact (powL_holds i _ _ _ h).2.2
    | false =>
      rw [hb, cond_false] at h
      exact (powL_holds i _ _ _ h).2

/-- What it comes to. -/
theorem powL_law {s : Nums} {e x : Nat} (hx : s 0 = x) : ∀ (i : Nat) (cur : Wd) (n : Nat) (acc : List Ex), Holds s (powL e i cur n acc).2.1 (powL e i cur n acc).2.2 → cur.val s % pq = x ^ (e / 2 ^ i) % pq →
    (powL e i cur n acc).1.val s % pq = x ^ e % pq
  | 0, cur, n, acc, h, hc => by
    rw [Nat.pow_zero, Nat.div_one] at hc
    exact hc
  | i + 1, cur, n, acc, h, hc => by
    have hd : e / 2 ^ i = 2 * (e / 2 ^ (i + 1)) + e / 2 ^ i % 2 := by
      rw [Nat.pow_succ, ← Nat.div_div_eq_div_mul]
      omega
    have hsq : (cur.val s * cur.val s) % pq = x ^ (2 * (e / 2 ^ (i + 1))) % pq := by
      rw [Nat.mul_mod, hc, ← Nat.mul_mod, ← Nat.pow_add, Nat.two_mul]
    rw [powL] at h ⊢
    cases hb : (e / 2 ^ i % 2 == 1) with
    | true =>
      rw [hb, cond_true] at h
      rw [cond_true]
      have hb' := beq_iff_eq.1 hb
      obtain ⟨h1, h2, _⟩ := powL_holds i _ _ _ h
      have e2 : s (n + 1) = s n * s 0 % pq := h1
      have e1 : s n = cur.val s * cur.val s % pq := h2
      refine powL_law hx i _ _ _ h ?_
      show s (n + 1) % pq = _
      rw [e2, e1, hx, Nat.mod_mod, hsq, Nat.mod_mul_mod, ← Nat.pow_succ, hd, hb']
    | false =>
      rw [hb, cond_false] at h
      rw [cond_false]
      have hb' : e / 2 ^ i % 2 = 0 := by
        have : ¬ e / 2 ^ i % 2 = 1 := fun e' => by rw [e', beq_self_eq_true] at hb; cases hb
        omega
      obtain ⟨h1, _⟩ := powL_holds i _ _ _ h
      have e1 : s n = cur.val s * cur.val s % pq := h1
      refine powL_law hx i _ _ _ h ?_
      show s n % pq = _
      rw [e1, Nat.mod_mod, hsq, hd, hb']
      rfl

def st58 : St := startSt [curveAV 0, .one (.sl 1 0 7)] [(0, foldCells), (1, l32s 0)] 1 2
def p58 : Wd × Nat × List Ex := powL (pq - 2) 224 (.c 1) 1 []
def b58 (R : Nat) : BriefR := ⟨.ret, p58.2.1, p58.2.2, [], [.one (.slc R 0 7 14)], [some (l32s (p58.2.1 - 1))]⟩
theorem run58 : briefRSame (briefR (tabX true [] xs58) Try.f58 [454] (runF (tabX true [] xs58) (fixD 19 2 [] [] []) 3000 Try.f58 st58)) (b58 454) = true := by kernel_rfl

theorem p58_end : p58.1 = .v 447 ∧ p58.2.1 = 448 := by decide +kernel
theorem fit58 : (b58 454).fit 1 = true := by kernel_rfl
theorem meets58 (w : World) (bf of b1 o1 c1 x : Nat) (hc1 : 7 ≤ c1) (hfo : FoldsAt w bf of) (hx : El w b1 o1 x) :
    Meets Try.prog 58 #[curveV bf of, .slice (some ⟨b1, o1, none⟩) 7 c1] w (NewEl w 14 (finvq x)) := by
  refine meets_of_calls Try.func58 (by kernel_rfl) (by kernel_rfl) ?_
  have hb := briefRSame_eq run58
  have hfit := fit58
  simp only [BriefR.fit, Bool.and_eq_true, decide_eq_true_eq, beq_iff_eq] at hfit
  obtain ⟨⟨⟨g1, g2⟩, g3⟩, g4⟩ := hfit
  let β : Places := fun r => if r = 0 then (bf, of) else (b1, o1)
  refine calls_briefR (F := fixD 19 2 [] [] []) tab58_ok hb Try.func58 Try.ntmps58 g1 g2 g3 g4 (show 2 ≤ 19 by decide) (show 2 < 4095 by decide) (fun _ => x) β
    (vals := [curveV bf of, .slice (some ⟨b1, o1, none⟩) 7 c1]) (fun s hs => ⟨curve_rep rfl (show 0 < 2 by decide), ⟨c1, hc1, rfl, show 1 < 2 by decide⟩, trivial⟩)
    (fun s hs => ⟨show 0 < 2 by decide, fold_row rfl hfo, show 1 < 2 by decide, l32_row rfl hx (hs 0 (by decide)), trivial⟩) (fun r l hl hr => by cases hr) ?_ (fun r q _ _ h => by cases h) (fun _ _ _ i b h => by cases h) ?_
  · intro r _
    show (if r = 0 then (bf, of) else (b1, o1)).1 < _
    split
    · exact hfo.lt
    · exact hx.lt
  · intro s hs hH st' β' a' w' v hv hm hag hr hbe
    have h0 : s 0 = x := hs 0 (by decide)
    have e447 : s 447 = finvq x := by
      have hl := powL_law (e := pq - 2) h0 224 (.c 1) 1 [] hH (by
        have : (pq - 2) / 2 ^ 224 = 0 := by decide +kernel
        rw [this]
        rfl)
      have e : (powL (pq - 2) 224 (.c 1) 1 []).1 = .v 447 := p58_end.1
      rw [e] at hl
      have hlt : s 447 < pq := by
        obtain ⟨p, hp⟩ : ∃ p : List Ex, p58.2.2 = .fmul (.v 446) (.v 0) :: p := ⟨p58.2.2.tail, by decide +kernel⟩
        have hH' : Holds s p58.2.1 p58.2.2 := hH
        rw [hp, p58_end.2] at hH'
        have : s 447 = s 446 * s 0 % pq := hH'.1
        rw [this]
        exact Nat.mod_lt _ pq_pos
      have hl' : s 447 % pq = x ^ (pq - 2) % pq := hl
      rw [Nat.mod_eq_of_lt hlt] at hl'
      rw [hl', finvq_def]
    have hl : lookup 454 st'.mem = some (l32s 447) := by
      have : [lookup 454 st'.mem] = [some (l32s (p58.2.1 - 1))] := hm
      rw [p58_end.2] at this
      simpa using this
    obtain ⟨hrn, hc⟩ := hr.mem 454 _ hl
    obtain ⟨f1, f2, f3⟩ := hr.fresh 454 (show 2 ≤ 454 by decide) hrn
    have hv' : v = .slice (some (at_ β' 454 0)) 7 14 := hv.1
    have hget : ∀ k, k < 7 → (l32s 447)[k]? = some (.l32 447 k) := fun k hk => by
      rw [l32s, List.getElem?_map, List.getElem?_range hk]
      rfl
    refine ⟨v, rfl, (β' 454).1, f1, f2, ?_, ⟨fun k hk => ?_, ?_⟩, fun k hk => ?_, hbe⟩
    · rw [hv', at_, f3]
    · obtain ⟨u, u1, u2⟩ := hc k _ (hget k hk)
      rw [u2.1, at_, f3, e447] at u1
      exact u1
    · obtain ⟨u, u1, u2⟩ := hc 0 _ (hget 0 (by decide))
      have := u2.2
      rwa [e447] at this
    · have := hr.frz 454 _ hl (.inl (show 2 ≤ 454 by decide)) k (by simp [l32s]; exact hk)
      rw [at_, f3, Nat.zero_add] at this
      exact this

/-- The inverse, as a call that the executor knows. -/
def x58 : X := fun F st args => match args with
  | [cv, .one x] => match isCurve st cv, x.asSl with
    | some _, some (r1, o1, 7) => match elS st.mem r1 o1 with
      | some l => some (.one (.slc st.nr 0 7 14), { st with mem := (st.nr, l32s st.nx) :: st.mem, nr := st.nr + 1, nx := st.nx + 1, exs := .finv l :: st.exs })
      | _ => none
    | _, _ => none
  | _ => none
theorem x58_ok : XOk Try.prog 58 x58 := by
  refine ⟨fun {F st st' args av} h => ?_, fun {s β F w0 st st' a w args vs av} hr h hargs hH => ?_⟩
  · unfold x58 at h
    split at h
    · split at h
      · split at h
        · cases h; exact ⟨⟨[_], rfl, rfl⟩, Nat.le_succ _⟩
        · cases h
      · cases h
    · cases h
  · unfold x58 at h
    split at h
    · rename_i cv x
      split at h
      · rename_i q r1 o1 hcv hx
        split at h
        · rename_i l hl
          cases h
          obtain ⟨u0, u, rfl, hu0, hu⟩ := avs2 hargs
          obtain ⟨rf, of⟩ := q
          obtain ⟨c0, c1, c2⟩ := isCurve_rep hr hcv hu0
          obtain ⟨⟨ca, hva, hca⟩, _⟩ := asSl_rep hx hu
          have hme := meets58 w (β rf).1 ((β rf).2 + of) (β r1).1 ((β r1).2 + o1) ca _ hca c1 (elS_rep hr hl)
          intro o' a' next Q hn
          rw [c0, hva]
          exact hme o' a' next Q fun v' w' hnew => hn _ _ (after_newEl hr hnew hH.1 rfl)
        · cases h
      · cases h
    · cases h
end P224
