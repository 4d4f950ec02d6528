/- The package's Add into one of the points, as a call that the executor knows. -/
import Derived.Test.YtccmmkgiamcgeaaGR9
import Derived.Test.YtccmmkgiamcgeaaGQ6
set_option linter.all false
namespace P224
open Go Go.RowKit Go.Proofs
set_option maxRecDepth 100000
set_option linter.unusedVariables false

def intoR (n : Int) (p q : Option (Nat × Nat)) : PR := if n = 2 then dblR p else sumR p q
def x39 : X := fun F st args => match args with
  | [.one (.lit (.int .i64 n)), .one a, .one b] => bif decide (0 ≤ n) && decide (n < 3) then (match inP F st a with
    | some (p, st1) => match inP F st1 b with
      | some (q, st2) => match outP F st2 (intoR n p q) with
        | some (x, st') => some (.tup [.one x, .one (.lit (.bool true))], st')
        | none => none
      | none => none
    | none => none) else none
  | _ => none
theorem x39_ok : XOk Try.prog 39 x39 := by
  refine ⟨fun {F st st' args av} h => ?_, fun {s β F w0 st st' a w args vs av} hr h hargs hH => ?_⟩
  · unfold x39 at h
    split at h
    · obtain ⟨_, h⟩ := bif_some h
      split at h
      · rename_i h1
        split at h
        · rename_i h2
          split at h
          · rename_i h3
            cases h
            exact ((inP_grows h1).trans (inP_grows h2)).trans (outP_grows h3)
          · cases h
        · cases h
      · cases h
    · cases h
  · unfold x39 at h
    split at h
    · rename_i n x0 y0
      obtain ⟨hd, h⟩ := bif_some h
      simp only [Bool.and_eq_true, decide_eq_true_eq] at hd
      obtain ⟨m, rfl⟩ := Int.eq_ofNat_of_zero_le hd.1
      have hm3 : m < 3 := by omega
      split at h
      · rename_i p st1 h1
        split at h
        · rename_i q st2 h2
          split at h
          · rename_i x st3 h3
            cases h
            obtain ⟨u0, u, v, rfl, hu0, hu, hv⟩ := avs3 hargs
            have hu0' : u0 = .int .i64 (m : Int) := hu0
            subst hu0'
            have g3 := outP_grows h3
            have g2 := inP_grows h2
            have H2 := g3.le.holds hH
            have H1 := g2.le.holds H2
            obtain ⟨a1, a2, r1⟩ := inP_ok hr h1 H1 hu
            obtain ⟨e1, e2⟩ := inP_same h1
            obtain ⟨b1, b2, r2⟩ := inP_ok r1 h2 H2 (by rw [e2]; exact hv)
            obtain ⟨e3, e4⟩ := inP_same h2
            have hme := meets39 w m hm3 u v a1 b1
            intro o' a' next Q hn
            refine hme o' a' next Q fun r w' ⟨v', hr', hnew⟩ => hn _ _ ?_
            obtain ⟨β', q1, q2, q3⟩ := outP_ok r2 h3 (p := if m = 2 then padd (ptOf s p) (ptOf s p) else padd (ptOf s p) (ptOf s q)) (by
              by_cases h2 : m = 2
              · rw [if_pos h2, intoR, if_pos (by omega)]; exact dblR_is a2
              · rw [if_neg h2, intoR, if_neg (by omega)]; exact sumR_is a2 b2) hnew hH
            exact ⟨β', by rw [← e2, ← e4]; exact q1, ⟨[_, _], hr', q2, rfl, trivial⟩, q3⟩
          · cases h
        · cases h
      · cases h
    · cases h
end P224
/- The package's Set and Double of two points by their bytes. PRINTED BY A PROGRAM OF MY OWN (gen/mk34.py). -/
namespace P224
open Go Go.RowKit Go.Proofs
set_option maxRecDepth 100000
set_option linter.unusedVariables false
theorem finvq_one : finvq 1 = 1 := by rw [finvq_def, Nat.one_pow, mod_one_pq]
theorem one_aff {x : Nat} (h : x < pq) : x * finvq 1 % pq = x := by rw [finvq_one, Nat.mul_one, Nat.mod_eq_of_lt h]
theorem out2_far {s : Nums} {β : Places} {n R Q : Nat} {v : Value} (h : (resAV [.one (.slc R 0 1 57), .one (.slc Q 0 1 57), .one (.lit (.bool true))]).rep s β n v) : v = .tuple #[.slice (some (at_ β R 0)) 1 57, .slice (some (at_ β Q 0)) 1 57, .bool true] := by
  obtain ⟨vs, rfl, hl⟩ := h
  match vs, hl with
  | [a, b, c], ⟨ha, hb, hc, _⟩ =>
    have hc' : c = .bool true := hc
    rw [ha.1, hb.1, hc']
theorem out2_on {s : Nums} {β : Places} {n R Q : Nat} {v : Value} (h : (resAV [.one (.slc R 0 57 57), .one (.slc Q 0 57 57), .one (.lit (.bool true))]).rep s β n v) : v = .tuple #[.slice (some (at_ β R 0)) 57 57, .slice (some (at_ β Q 0)) 57 57, .bool true] := by
  obtain ⟨vs, rfl, hl⟩ := h
  match vs, hl with
  | [a, b, c], ⟨ha, hb, hc, _⟩ =>
    have hc' : c = .bool true := hc
    rw [ha.1, hb.1, hc']
theorem apart_at {s : Nums} {β : Places} {F : Fix} {w0 : World} {st : St} {a : Act} {w : World} (hr : Rel F s β w0 st a w) {R Q : Nat} {k l : List A0} (h1 : lookup R st.mem = some k) (h2 : lookup Q st.mem = some l) (n1 : F.nold ≤ R) (n2 : F.nold ≤ Q) (hne : R ≠ Q) {n c m d : Nat} :
    ∀ b1 n1 c1 b2 n2 c2, Value.slice (some (at_ β R 0)) n c = .slice (some ⟨b1, 0, none⟩) n1 c1 → Value.slice (some (at_ β Q 0)) m d = .slice (some ⟨b2, 0, none⟩) n2 c2 → b1 ≠ b2 := by
  intro b1 n1' c1 b2 n2' c2 e1 e2
  have hd := hr.dist R Q n1 n2 (hr.mem R k h1).1 (hr.mem Q l h2).1 hne
  injection e1 with e1 _ _
  injection e1 with e1
  injection e1 with e1 _ _
  injection e2 with e2 _ _
  injection e2 with e2
  injection e2 with e2 _ _
  rw [← e1, ← e2]
  exact hd
def ex34pp : List Ex := [
.fmul (.v 9) (.v 22),
.fcst 0,
.fmul (.v 8) (.v 22),
.fcst 0,
.finv (.v 10),
.fcst 0,
.feq (.v 19) (.c 1),
.feq (.v 10) (.c 0),
.fmul (.v 3) (.v 14),
.fcst 0,
.fmul (.v 2) (.v 14),
.fcst 0,
.finv (.v 7),
.fcst 0,
.feq (.v 11) (.c 1),
.feq (.v 7) (.c 0),
.op 18 [(.v 3), (.v 7)],
.op 16 [(.v 2), (.v 3), (.v 7), (.v 2), (.v 3), (.v 7)],
.op 15 [(.v 2), (.v 3), (.v 7), (.v 2), (.v 3), (.v 7)],
.fcst 1,
.op 20 [(.v 2), (.v 3)],
.fcst 1,
.op 20 [(.v 0), (.v 1)]]
def dec34pp : List (Nat × Bool) := [(4, true), (6, true), (11, false), (12, false), (19, false), (20, false)]
def fix34pp : Fix := fixD 29 2 [] [] dec34pp
def br34pp : BriefR := ⟨.ret, 27, ex34pp, [], [.one (.slc 10 0 57 57), .one (.slc 22 0 57 57), .one (.lit (.bool true))], [some (ptRow 16 18), some (ptRow 24 26)]⟩
theorem run34pp : briefR (tabX true pointPrims xm4) Try.f34 [10, 22] (runF (tabX true pointPrims xm4) fix34pp 3000 Try.f34 (startSt [.one (.sl 0 0 57), .one (.sl 1 0 57)] [(0, ptRow 0 1), (1, ptRow 2 3)] 4 2)) = some br34pp := by kernel_rfl
theorem law34pp {s : Nums} {x0 y0 : Nat} (g0 : s 0 = x0) (g1 : s 1 = y0) (lx0 : x0 < pq) (ly0 : y0 < pq) (hon0 : onN x0 y0 = 1) {x1 y1 : Nat} (g2 : s 2 = x1) (g3 : s 3 = y1) (lx1 : x1 < pq) (ly1 : y1 < pq) (hon1 : onN x1 y1 = 1) (hfar : padd (ptN x1 y1) (ptN x1 y1) ≠ .far) (h : Holds s 27 ex34pp) : s 4 = 1 ∧ s 6 = 1 ∧ s 11 = 0 ∧ s 12 = 0 ∧ s 19 = 0 ∧ s 20 = 0 ∧ s 24 = xOf (padd (ptN x1 y1) (ptN x1 y1)) ∧ s 26 = yOf (padd (ptN x1 y1) (ptN x1 y1)) ∧ s 16 = x1 ∧ s 18 = y1 := by
  obtain ⟨h26, h25, h24, h23, h22, h21, h20, h19, h18, h17, h16, h15, h14, h13, h12, h11, h10, h9, h8, h7, h6, h5, h4, _⟩ := h
  have e26 : s 26 = s 9 * s 22 % pq := h26
  have e25 : s 25 = 0 := (show s 25 = 0 % pq from h25).trans (Nat.zero_mod _)
  have e24 : s 24 = s 8 * s 22 % pq := h24
  have e23 : s 23 = 0 := (show s 23 = 0 % pq from h23).trans (Nat.zero_mod _)
  have e22 : s 22 = finvq (s 10) := h22
  have e21 : s 21 = 0 := (show s 21 = 0 % pq from h21).trans (Nat.zero_mod _)
  have e20 : s 20 = if s 19 = 1 then 1 else 0 := h20
  have e19 : s 19 = if s 10 = 0 then 1 else 0 := h19
  have e18 : s 18 = s 3 * s 14 % pq := h18
  have e17 : s 17 = 0 := (show s 17 = 0 % pq from h17).trans (Nat.zero_mod _)
  have e16 : s 16 = s 2 * s 14 % pq := h16
  have e15 : s 15 = 0 := (show s 15 = 0 % pq from h15).trans (Nat.zero_mod _)
  have e14 : s 14 = finvq (s 7) := h14
  have e13 : s 13 = 0 := (show s 13 = 0 % pq from h13).trans (Nat.zero_mod _)
  have e12 : s 12 = if s 11 = 1 then 1 else 0 := h12
  have e11 : s 11 = if s 7 = 0 then 1 else 0 := h11
  have e10 : s 10 = 8 * (s 3 * s 3 * s 3) * s 7 % pq := h10
  have e9 : s 9 = syN pq bq (s 2) (s 3) (s 7) (s 2) (s 3) (s 7) := h9
  have e8 : s 8 = sxN pq bq (s 2) (s 3) (s 7) (s 2) (s 3) (s 7) := h8
  have e7 : s 7 = 1 := (show s 7 = 1 % pq from h7).trans mod_one_pq
  have e6 : s 6 = onN (s 2) (s 3) := h6
  have e5 : s 5 = 1 := (show s 5 = 1 % pq from h5).trans mod_one_pq
  have e4 : s 4 = onN (s 0) (s 1) := h4
  rw [g2, g3, e7] at e8 e9
  rw [g3, e7] at e10
  have key := dbl_nums (onN_on hon1) (rep_one fine x1 y1) e8 e9 e10
  obtain ⟨k0, k1, k2⟩ := key.2 hfar
  rw [if_neg k0] at e19
  rw [if_neg (by rw [e19]; decide)] at e20
  rw [e7] at e11 e14
  rw [if_neg (by decide)] at e11
  rw [if_neg (by rw [e11]; decide)] at e12
  rw [e14, g2, one_aff lx1] at e16
  rw [e14, g3, one_aff ly1] at e18
  rw [e22, k1] at e24
  rw [e22, k2] at e26
  rw [g2, g3, hon1] at e6
  rw [g0, g1, hon0] at e4
  exact ⟨e4, e6, e11, e12, e19, e20, e24, e26, e16, e18⟩

def ex34fp : List Ex := [
.fmul (.v 13) (.v 26),
.fcst 0,
.fmul (.v 12) (.v 26),
.fcst 0,
.finv (.v 14),
.fcst 0,
.feq (.v 23) (.c 1),
.feq (.v 14) (.c 0),
.fmul (.v 1) (.v 18),
.fcst 0,
.fmul (.v 0) (.v 18),
.fcst 0,
.finv (.v 11),
.fcst 0,
.feq (.v 15) (.c 1),
.feq (.v 11) (.c 0),
.op 18 [(.v 1), (.v 11)],
.op 16 [(.v 0), (.v 1), (.v 11), (.v 0), (.v 1), (.v 11)],
.op 15 [(.v 0), (.v 1), (.v 11), (.v 0), (.v 1), (.v 11)],
.fcst 1,
.op 20 [(.v 0), (.v 1)],
.fcst 0,
.fcst 1,
.fcst 0,
.fcst 0,
.fcst 0,
.fcst 1,
.fcst 0,
.fcst 0]
def dec34fp : List (Nat × Bool) := [(10, true), (15, false), (16, false), (23, false), (24, false)]
def fix34fp : Fix := fixD 29 2 [] [] dec34fp
def br34fp : BriefR := ⟨.ret, 31, ex34fp, [], [.one (.slc 16 0 57 57), .one (.slc 28 0 57 57), .one (.lit (.bool true))], [some (ptRow 20 22), some (ptRow 28 30)]⟩
theorem run34fp : briefR (tabX true pointPrims xm4) Try.f34 [16, 28] (runF (tabX true pointPrims xm4) fix34fp 3000 Try.f34 (startSt [.one (.sl 0 0 1), .one (.sl 1 0 57)] [(0, [.lit (.int .u8 0)]), (1, ptRow 0 1)] 2 2)) = some br34fp := by kernel_rfl
theorem law34fp {s : Nums} {x1 y1 : Nat} (g0 : s 0 = x1) (g1 : s 1 = y1) (lx1 : x1 < pq) (ly1 : y1 < pq) (hon1 : onN x1 y1 = 1) (hfar : padd (ptN x1 y1) (ptN x1 y1) ≠ .far) (h : Holds s 31 ex34fp) : s 10 = 1 ∧ s 15 = 0 ∧ s 16 = 0 ∧ s 23 = 0 ∧ s 24 = 0 ∧ s 28 = xOf (padd (ptN x1 y1) (ptN x1 y1)) ∧ s 30 = yOf (padd (ptN x1 y1) (ptN x1 y1)) ∧ s 20 = x1 ∧ s 22 = y1 := by
  obtain ⟨h30, h29, h28, h27, h26, h25, h24, h23, h22, h21, h20, h19, h18, h17, h16, h15, h14, h13, h12, h11, h10, h9, h8, h7, h6, h5, h4, h3, h2, _⟩ := h
  have e30 : s 30 = s 13 * s 26 % pq := h30
  have e29 : s 29 = 0 := (show s 29 = 0 % pq from h29).trans (Nat.zero_mod _)
  have e28 : s 28 = s 12 * s 26 % pq := h28
  have e27 : s 27 = 0 := (show s 27 = 0 % pq from h27).trans (Nat.zero_mod _)
  have e26 : s 26 = finvq (s 14) := h26
  have e25 : s 25 = 0 := (show s 25 = 0 % pq from h25).trans (Nat.zero_mod _)
  have e24 : s 24 = if s 23 = 1 then 1 else 0 := h24
  have e23 : s 23 = if s 14 = 0 then 1 else 0 := h23
  have e22 : s 22 = s 1 * s 18 % pq := h22
  have e21 : s 21 = 0 := (show s 21 = 0 % pq from h21).trans (Nat.zero_mod _)
  have e20 : s 20 = s 0 * s 18 % pq := h20
  have e19 : s 19 = 0 := (show s 19 = 0 % pq from h19).trans (Nat.zero_mod _)
  have e18 : s 18 = finvq (s 11) := h18
  have e17 : s 17 = 0 := (show s 17 = 0 % pq from h17).trans (Nat.zero_mod _)
  have e16 : s 16 = if s 15 = 1 then 1 else 0 := h16
  have e15 : s 15 = if s 11 = 0 then 1 else 0 := h15
  have e14 : s 14 = 8 * (s 1 * s 1 * s 1) * s 11 % pq := h14
  have e13 : s 13 = syN pq bq (s 0) (s 1) (s 11) (s 0) (s 1) (s 11) := h13
  have e12 : s 12 = sxN pq bq (s 0) (s 1) (s 11) (s 0) (s 1) (s 11) := h12
  have e11 : s 11 = 1 := (show s 11 = 1 % pq from h11).trans mod_one_pq
  have e10 : s 10 = onN (s 0) (s 1) := h10
  have e9 : s 9 = 0 := (show s 9 = 0 % pq from h9).trans (Nat.zero_mod _)
  have e8 : s 8 = 1 := (show s 8 = 1 % pq from h8).trans mod_one_pq
  have e7 : s 7 = 0 := (show s 7 = 0 % pq from h7).trans (Nat.zero_mod _)
  have e6 : s 6 = 0 := (show s 6 = 0 % pq from h6).trans (Nat.zero_mod _)
  have e5 : s 5 = 0 := (show s 5 = 0 % pq from h5).trans (Nat.zero_mod _)
  have e4 : s 4 = 1 := (show s 4 = 1 % pq from h4).trans mod_one_pq
  have e3 : s 3 = 0 := (show s 3 = 0 % pq from h3).trans (Nat.zero_mod _)
  have e2 : s 2 = 0 := (show s 2 = 0 % pq from h2).trans (Nat.zero_mod _)
  rw [g0, g1, e11] at e12 e13
  rw [g1, e11] at e14
  have key := dbl_nums (onN_on hon1) (rep_one fine x1 y1) e12 e13 e14
  obtain ⟨k0, k1, k2⟩ := key.2 hfar
  rw [if_neg k0] at e23
  rw [if_neg (by rw [e23]; decide)] at e24
  rw [e11] at e15 e18
  rw [if_neg (by decide)] at e15
  rw [if_neg (by rw [e15]; decide)] at e16
  rw [e18, g0, one_aff lx1] at e20
  rw [e18, g1, one_aff ly1] at e22
  rw [e26, k1] at e28
  rw [e26, k2] at e30
  rw [g0, g1, hon1] at e10
  exact ⟨e10, e15, e16, e23, e24, e28, e30, e20, e22⟩

def ex34pf : List Ex := [
.feq (.v 17) (.c 1),
.feq (.v 14) (.c 0),
.feq (.v 15) (.c 1),
.feq (.v 11) (.c 0),
.op 18 [(.v 10), (.v 11)],
.op 16 [(.v 8), (.v 10), (.v 11), (.v 8), (.v 10), (.v 11)],
.op 15 [(.v 8), (.v 10), (.v 11), (.v 8), (.v 10), (.v 11)],
.fcst 0,
.fcst 1,
.fcst 0,
.fcst 0,
.fcst 0,
.fcst 1,
.fcst 0,
.fcst 0,
.fcst 1,
.op 20 [(.v 0), (.v 1)]]
def dec34pf : List (Nat × Bool) := [(2, true), (15, true), (16, true), (17, true), (18, true)]
def fix34pf : Fix := fixD 29 2 [] [] dec34pf
def br34pf : BriefR := ⟨.ret, 19, ex34pf, [], [.one (.slc 16 0 1 57), .one (.slc 21 0 1 57), .one (.lit (.bool true))], [some farRow, some farRow]⟩
theorem run34pf : briefR (tabX true pointPrims xm4) Try.f34 [16, 21] (runF (tabX true pointPrims xm4) fix34pf 3000 Try.f34 (startSt [.one (.sl 0 0 57), .one (.sl 1 0 1)] [(0, ptRow 0 1), (1, [.lit (.int .u8 0)])] 2 2)) = some br34pf := by kernel_rfl
theorem law34pf {s : Nums} {x0 y0 : Nat} (g0 : s 0 = x0) (g1 : s 1 = y0) (lx0 : x0 < pq) (ly0 : y0 < pq) (hon0 : onN x0 y0 = 1) (hfar : padd (.far : Pt pp) .far = .far) (h : Holds s 19 ex34pf) : s 2 = 1 ∧ s 15 = 1 ∧ s 16 = 1 ∧ s 17 = 1 ∧ s 18 = 1 := by
  obtain ⟨h18, h17, h16, h15, h14, h13, h12, h11, h10, h9, h8, h7, h6, h5, h4, h3, h2, _⟩ := h
  have e18 : s 18 = if s 17 = 1 then 1 else 0 := h18
  have e17 : s 17 = if s 14 = 0 then 1 else 0 := h17
  have e16 : s 16 = if s 15 = 1 then 1 else 0 := h16
  have e15 : s 15 = if s 11 = 0 then 1 else 0 := h15
  have e14 : s 14 = 8 * (s 10 * s 10 * s 10) * s 11 % pq := h14
  have e13 : s 13 = syN pq bq (s 8) (s 10) (s 11) (s 8) (s 10) (s 11) := h13
  have e12 : s 12 = sxN pq bq (s 8) (s 10) (s 11) (s 8) (s 10) (s 11) := h12
  have e11 : s 11 = 0 := (show s 11 = 0 % pq from h11).trans (Nat.zero_mod _)
  have e10 : s 10 = 1 := (show s 10 = 1 % pq from h10).trans mod_one_pq
  have e9 : s 9 = 0 := (show s 9 = 0 % pq from h9).trans (Nat.zero_mod _)
  have e8 : s 8 = 0 := (show s 8 = 0 % pq from h8).trans (Nat.zero_mod _)
  have e7 : s 7 = 0 := (show s 7 = 0 % pq from h7).trans (Nat.zero_mod _)
  have e6 : s 6 = 1 := (show s 6 = 1 % pq from h6).trans mod_one_pq
  have e5 : s 5 = 0 := (show s 5 = 0 % pq from h5).trans (Nat.zero_mod _)
  have e4 : s 4 = 0 := (show s 4 = 0 % pq from h4).trans (Nat.zero_mod _)
  have e3 : s 3 = 1 := (show s 3 = 1 % pq from h3).trans mod_one_pq
  have e2 : s 2 = onN (s 0) (s 1) := h2
  rw [e8, e10, e11] at e12 e13
  rw [e10, e11] at e14
  have key := dbl_nums far_on (rep_zero fine) e12 e13 e14
  have k0 := key.1 hfar
  rw [if_pos k0] at e17
  rw [if_pos e17] at e18
  rw [if_pos e11] at e15
  rw [if_pos e15] at e16
  rw [g0, g1, hon0] at e2
  exact ⟨e2, e15, e16, e17, e18⟩

def ex34ff : List Ex := [
.feq (.v 21) (.c 1),
.feq (.v 18) (.c 0),
.feq (.v 19) (.c 1),
.feq (.v 15) (.c 0),
.op 18 [(.v 14), (.v 15)],
.op 16 [(.v 12), (.v 14), (.v 15), (.v 12), (.v 14), (.v 15)],
.op 15 [(.v 12), (.v 14), (.v 15), (.v 12), (.v 14), (.v 15)],
.fcst 0,
.fcst 1,
.fcst 0,
.fcst 0,
.fcst 0,
.fcst 1,
.fcst 0,
.fcst 0,
.fcst 0,
.fcst 1,
.fcst 0,
.fcst 0,
.fcst 0,
.fcst 1,
.fcst 0,
.fcst 0]
def dec34ff : List (Nat × Bool) := [(19, true), (20, true), (21, true), (22, true)]
def fix34ff : Fix := fixD 29 2 [] [] dec34ff
def br34ff : BriefR := ⟨.ret, 23, ex34ff, [], [.one (.slc 22 0 1 57), .one (.slc 27 0 1 57), .one (.lit (.bool true))], [some farRow, some farRow]⟩
theorem run34ff : briefR (tabX true pointPrims xm4) Try.f34 [22, 27] (runF (tabX true pointPrims xm4) fix34ff 3000 Try.f34 (startSt [.one (.sl 0 0 1), .one (.sl 1 0 1)] [(0, [.lit (.int .u8 0)]), (1, [.lit (.int .u8 0)])] 0 2)) = some br34ff := by kernel_rfl
theorem law34ff {s : Nums} (hfar : padd (.far : Pt pp) .far = .far) (h : Holds s 23 ex34ff) : s 19 = 1 ∧ s 20 = 1 ∧ s 21 = 1 ∧ s 22 = 1 := by
  obtain ⟨h22, h21, h20, h19, h18, h17, h16, h15, h14, h13, h12, h11, h10, h9, h8, h7, h6, h5, h4, h3, h2, h1, h0, _⟩ := h
  have e22 : s 22 = if s 21 = 1 then 1 else 0 := h22
  have e21 : s 21 = if s 18 = 0 then 1 else 0 := h21
  have e20 : s 20 = if s 19 = 1 then 1 else 0 := h20
  have e19 : s 19 = if s 15 = 0 then 1 else 0 := h19
  have e18 : s 18 = 8 * (s 14 * s 14 * s 14) * s 15 % pq := h18
  have e17 : s 17 = syN pq bq (s 12) (s 14) (s 15) (s 12) (s 14) (s 15) := h17
  have e16 : s 16 = sxN pq bq (s 12) (s 14) (s 15) (s 12) (s 14) (s 15) := h16
  have e15 : s 15 = 0 := (show s 15 = 0 % pq from h15).trans (Nat.zero_mod _)
  have e14 : s 14 = 1 := (show s 14 = 1 % pq from h14).trans mod_one_pq
  have e13 : s 13 = 0 := (show s 13 = 0 % pq from h13).trans (Nat.zero_mod _)
  have e12 : s 12 = 0 := (show s 12 = 0 % pq from h12).trans (Nat.zero_mod _)
  have e11 : s 11 = 0 := (show s 11 = 0 % pq from h11).trans (Nat.zero_mod _)
  have e10 : s 10 = 1 := (show s 10 = 1 % pq from h10).trans mod_one_pq
  have e9 : s 9 = 0 := (show s 9 = 0 % pq from h9).trans (Nat.zero_mod _)
  have e8 : s 8 = 0 := (show s 8 = 0 % pq from h8).trans (Nat.zero_mod _)
  have e7 : s 7 = 0 := (show s 7 = 0 % pq from h7).trans (Nat.zero_mod _)
  have e6 : s 6 = 1 := (show s 6 = 1 % pq from h6).trans mod_one_pq
  have e5 : s 5 = 0 := (show s 5 = 0 % pq from h5).trans (Nat.zero_mod _)
  have e4 : s 4 = 0 := (show s 4 = 0 % pq from h4).trans (Nat.zero_mod _)
  have e3 : s 3 = 0 := (show s 3 = 0 % pq from h3).trans (Nat.zero_mod _)
  have e2 : s 2 = 1 := (show s 2 = 1 % pq from h2).trans mod_one_pq
  have e1 : s 1 = 0 := (show s 1 = 0 % pq from h1).trans (Nat.zero_mod _)
  have e0 : s 0 = 0 := (show s 0 = 0 % pq from h0).trans (Nat.zero_mod _)
  rw [e12, e14, e15] at e16 e17
  rw [e14, e15] at e18
  have key := dbl_nums far_on (rep_zero fine) e16 e17 e18
  have k0 := key.1 hfar
  rw [if_pos k0] at e21
  rw [if_pos e21] at e22
  rw [if_pos e15] at e19
  rw [if_pos e19] at e20
  exact ⟨e19, e20, e21, e22⟩

theorem meets34 (w : World) (v1 v2 : Value) {p q : Pt pp} (h1 : PtAt w v1 p) (h2 : PtAt w v2 q) : Meets Try.prog 34 #[v1, v2] w (OutPt2 w q (padd q q)) := by
  refine meets_of_calls Try.func34 (by kernel_rfl) (by kernel_rfl) ?_
  cases h1 with
  | far b0 o0 c0 hv0 hc0 hp0 =>
    subst hv0
    have lt0 : b0 < w.heap.size := World.block_lt_of_cell? w _ hp0
    cases h2 with
    | far b1 o1 c1 hv1 hc1 hp1 =>
      subst hv1
      have lt1 : b1 < w.heap.size := World.block_lt_of_cell? w _ hp1
      have hfar : padd (.far : Pt pp) .far = .far := rfl
      refine calls_briefR (F := fix34ff) (tabX_ok pointPrims_ok xm4_ok) run34ff Try.func34 Try.ntmps34 rfl (by decide +kernel) (by decide +kernel) (by decide +kernel) (show 2 ≤ 29 by decide) (show 2 < 4095 by decide) (fun _ => 0) (fun r => if r = 0 then (b0, o0) else (b1, o1))
        (vals := [_, _]) (fun s hs => ⟨⟨c0, hc0, rfl, show 0 < 2 by decide⟩, ⟨c1, hc1, rfl, show 1 < 2 by decide⟩, trivial⟩) (fun s hs => ⟨show 0 < 2 by decide, ⟨⟨_, hp0, rfl⟩, trivial⟩, show 1 < 2 by decide, ⟨⟨_, hp1, rfl⟩, trivial⟩, trivial⟩) (fun r l hl hr => by cases hr) (fun r _ => (by show (if r = 0 then (b0, o0) else (b1, o1)).1 < _; split; exact lt0; exact lt1)) (fun r q _ _ h => by cases h) ?_ ?_
      · intro s hs hH i bb hb
        obtain ⟨q0, q1, q2, q3⟩ := law34ff hfar hH
        have := findT_mem (show findT i dec34ff = some bb from hb)
        simp only [dec34ff, List.mem_cons, List.not_mem_nil, or_false, Prod.mk.injEq] at this
        rcases this with ⟨rfl, rfl⟩ | ⟨rfl, rfl⟩ | ⟨rfl, rfl⟩ | ⟨rfl, rfl⟩ <;> assumption
      · intro s hs hH st' β' a' w' v hv hm hag hr hbe
        obtain ⟨q0, q1, q2, q3⟩ := law34ff hfar hH
        injection (show [lookup 22 st'.mem, lookup 27 st'.mem] = [some farRow, some farRow] from hm) with m1 hm
        injection hm with m2 _
        exact ⟨_, rfl, _, _, out2_far hv, newAt_far hr (l := List.replicate 56 (.lit (.int .u8 0))) m1 (show 2 ≤ 22 by decide) hbe rfl, (newAt_far hr (l := List.replicate 56 (.lit (.int .u8 0))) m2 (show 2 ≤ 27 by decide) hbe rfl).of_eq hfar, apart_at hr m1 m2 (show 2 ≤ 22 by decide) (show 2 ≤ 27 by decide) (by decide)⟩
    | on b1 o1 c1 x1 y1 hv1 hc1 hp1 lx1 ly1 hon1 =>
      subst hv1
      have lt1 : b1 < w.heap.size := World.block_lt_of_cell? w _ (hp1 0 4 rfl)
      have hfar := dbl_far ly1 hon1
      refine calls_briefR (F := fix34fp) (tabX_ok pointPrims_ok xm4_ok) run34fp Try.func34 Try.ntmps34 rfl (by decide +kernel) (by decide +kernel) (by decide +kernel) (show 2 ≤ 29 by decide) (show 2 < 4095 by decide) (fun i => if i = 0 then x1 else y1) (fun r => if r = 0 then (b0, o0) else (b1, o1))
        (vals := [_, _]) (fun s hs => ⟨⟨c0, hc0, rfl, show 0 < 2 by decide⟩, ⟨c1, hc1, rfl, show 1 < 2 by decide⟩, trivial⟩) (fun s hs => ⟨show 0 < 2 by decide, ⟨⟨_, hp0, rfl⟩, trivial⟩, show 1 < 2 by decide, ptRow_row rfl hp1 (hs 0 (by decide)) (hs 1 (by decide)) lx1 ly1, trivial⟩) (fun r l hl hr => by cases hr) (fun r _ => (by show (if r = 0 then (b0, o0) else (b1, o1)).1 < _; split; exact lt0; exact lt1)) (fun r q _ _ h => by cases h) ?_ ?_
      · intro s hs hH i bb hb
        obtain ⟨q0, q1, q2, q3, q4, q5, q6, q7, q8⟩ := law34fp (hs 0 (by decide)) (hs 1 (by decide)) lx1 ly1 hon1 hfar hH
        have := findT_mem (show findT i dec34fp = some bb from hb)
        simp only [dec34fp, List.mem_cons, List.not_mem_nil, or_false, Prod.mk.injEq] at this
        rcases this with ⟨rfl, rfl⟩ | ⟨rfl, rfl⟩ | ⟨rfl, rfl⟩ | ⟨rfl, rfl⟩ | ⟨rfl, rfl⟩ <;> assumption
      · intro s hs hH st' β' a' w' v hv hm hag hr hbe
        obtain ⟨q0, q1, q2, q3, q4, q5, q6, q7, q8⟩ := law34fp (hs 0 (by decide)) (hs 1 (by decide)) lx1 ly1 hon1 hfar hH
        injection (show [lookup 16 st'.mem, lookup 28 st'.mem] = [some (ptRow 20 22), some (ptRow 28 30)] from hm) with m1 hm
        injection hm with m2 _
        exact ⟨_, rfl, _, _, out2_on hv, newAt_on hr m1 (show 2 ≤ 16 by decide) hbe q7 q8 lx1 ly1 rfl, (newAt_on hr m2 (show 2 ≤ 28 by decide) hbe q5 q6 (xOf_lt _) (yOf_lt _) rfl).of_eq (on_eq hfar), apart_at hr m1 m2 (show 2 ≤ 16 by decide) (show 2 ≤ 28 by decide) (by decide)⟩
  | on b0 o0 c0 x0 y0 hv0 hc0 hp0 lx0 ly0 hon0 =>
    subst hv0
    have lt0 : b0 < w.heap.size := World.block_lt_of_cell? w _ (hp0 0 4 rfl)
    cases h2 with
    | far b1 o1 c1 hv1 hc1 hp1 =>
      subst hv1
      have lt1 : b1 < w.heap.size := World.block_lt_of_cell? w _ hp1
      have hfar : padd (.far : Pt pp) .far = .far := rfl
      refine calls_briefR (F := fix34pf) (tabX_ok pointPrims_ok xm4_ok) run34pf Try.func34 Try.ntmps34 rfl (by decide +kernel) (by decide +kernel) (by decide +kernel) (show 2 ≤ 29 by decide) (show 2 < 4095 by decide) (fun i => if i = 0 then x0 else y0) (fun r => if r = 0 then (b0, o0) else (b1, o1))
        (vals := [_, _]) (fun s hs => ⟨⟨c0, hc0, rfl, show 0 < 2 by decide⟩, ⟨c1, hc1, rfl, show 1 < 2 by decide⟩, trivial⟩) (fun s hs => ⟨show 0 < 2 by decide, ptRow_row rfl hp0 (hs 0 (by decide)) (hs 1 (by decide)) lx0 ly0, show 1 < 2 by decide, ⟨⟨_, hp1, rfl⟩, trivial⟩, trivial⟩) (fun r l hl hr => by cases hr) (fun r _ => (by show (if r = 0 then (b0, o0) else (b1, o1)).1 < _; split; exact lt0; exact lt1)) (fun r q _ _ h => by cases h) ?_ ?_
      · intro s hs hH i bb hb
        obtain ⟨q0, q1, q2, q3, q4⟩ := law34pf (hs 0 (by decide)) (hs 1 (by decide)) lx0 ly0 hon0 hfar hH
        have := findT_mem (show findT i dec34pf = some bb from hb)
        simp only [dec34pf, List.mem_cons, List.not_mem_nil, or_false, Prod.mk.injEq] at this
        rcases this with ⟨rfl, rfl⟩ | ⟨rfl, rfl⟩ | ⟨rfl, rfl⟩ | ⟨rfl, rfl⟩ | ⟨rfl, rfl⟩ <;> assumption
      · intro s hs hH st' β' a' w' v hv hm hag hr hbe
        obtain ⟨q0, q1, q2, q3, q4⟩ := law34pf (hs 0 (by decide)) (hs 1 (by decide)) lx0 ly0 hon0 hfar hH
        injection (show [lookup 16 st'.mem, lookup 21 st'.mem] = [some farRow, some farRow] from hm) with m1 hm
        injection hm with m2 _
        exact ⟨_, rfl, _, _, out2_far hv, newAt_far hr (l := List.replicate 56 (.lit (.int .u8 0))) m1 (show 2 ≤ 16 by decide) hbe rfl, (newAt_far hr (l := List.replicate 56 (.lit (.int .u8 0))) m2 (show 2 ≤ 21 by decide) hbe rfl).of_eq hfar, apart_at hr m1 m2 (show 2 ≤ 16 by decide) (show 2 ≤ 21 by decide) (by decide)⟩
    | on b1 o1 c1 x1 y1 hv1 hc1 hp1 lx1 ly1 hon1 =>
      subst hv1
      have lt1 : b1 < w.heap.size := World.block_lt_of_cell? w _ (hp1 0 4 rfl)
      have hfar := dbl_far ly1 hon1
      refine calls_briefR (F := fix34pp) (tabX_ok pointPrims_ok xm4_ok) run34pp Try.func34 Try.ntmps34 rfl (by decide +kernel) (by decide +kernel) (by decide +kernel) (show 2 ≤ 29 by decide) (show 2 < 4095 by decide) (fun i => if i = 0 then x0 else if i = 1 then y0 else if i = 2 then x1 else y1) (fun r => if r = 0 then (b0, o0) else (b1, o1))
        (vals := [_, _]) (fun s hs => ⟨⟨c0, hc0, rfl, show 0 < 2 by decide⟩, ⟨c1, hc1, rfl, show 1 < 2 by decide⟩, trivial⟩) (fun s hs => ⟨show 0 < 2 by decide, ptRow_row rfl hp0 (hs 0 (by decide)) (hs 1 (by decide)) lx0 ly0, show 1 < 2 by decide, ptRow_row rfl hp1 (hs 2 (by decide)) (hs 3 (by decide)) lx1 ly1, trivial⟩) (fun r l hl hr => by cases hr) (fun r _ => (by show (if r = 0 then (b0, o0) else (b1, o1)).1 < _; split; exact lt0; exact lt1)) (fun r q _ _ h => by cases h) ?_ ?_
      · intro s hs hH i bb hb
        obtain ⟨q0, q1, q2, q3, q4, q5, q6, q7, q8, q9⟩ := law34pp (hs 0 (by decide)) (hs 1 (by decide)) lx0 ly0 hon0 (hs 2 (by decide)) (hs 3 (by decide)) lx1 ly1 hon1 hfar hH
        have := findT_mem (show findT i dec34pp = some bb from hb)
        simp only [dec34pp, List.mem_cons, List.not_mem_nil, or_false, Prod.mk.injEq] at this
        rcases this with ⟨rfl, rfl⟩ | ⟨rfl, rfl⟩ | ⟨rfl, rfl⟩ | ⟨rfl, rfl⟩ | ⟨rfl, rfl⟩ | ⟨rfl, rfl⟩ <;> assumption
      · intro s hs hH st' β' a' w' v hv hm hag hr hbe
        obtain ⟨q0, q1, q2, q3, q4, q5, q6, q7, q8, q9⟩ := law34pp (hs 0 (by decide)) (hs 1 (by decide)) lx0 ly0 hon0 (hs 2 (by decide)) (hs 3 (by decide)) lx1 ly1 hon1 hfar hH
        injection (show [lookup 10 st'.mem, lookup 22 st'.mem] = [some (ptRow 16 18), some (ptRow 24 26)] from hm) with m1 hm
        injection hm with m2 _
        exact ⟨_, rfl, _, _, out2_on hv, newAt_on hr m1 (show 2 ≤ 10 by decide) hbe q8 q9 lx1 ly1 rfl, (newAt_on hr m2 (show 2 ≤ 22 by decide) hbe q6 q7 (xOf_lt _) (yOf_lt _) rfl).of_eq (on_eq hfar), apart_at hr m1 m2 (show 2 ≤ 10 by decide) (show 2 ≤ 22 by decide) (by decide)⟩
theorem x34_ok : XOk Try.prog 34 x34 := x34_ok_of fun w v1 v2 p q h1 h2 => meets34 w v1 v2 h1 h2
end P224
