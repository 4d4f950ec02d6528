/- The package's Add of two points by their bytes. PRINTED BY A PROGRAM OF MY OWN (gen/mk9.py). -/
import Derived.Test.YtccmmkgiamcgeaaGP7
set_option linter.all false
namespace P224
open Go Go.RowKit Go.Proofs
set_option maxRecDepth 100000
set_option linter.unusedVariables false
def farRow : List A0 := List.replicate 57 (.lit (.int .u8 0))
/-- What the package's formulas give. -/
theorem add_nums {t u : T3} {p q : Pt pp} (hp : OnC bb p) (hq : OnC bb q) (ht : Rep (toTri pp t) p) (hu : Rep (toTri pp u) q) {X Y Z : Nat}
    (hX : X = sxN pq bq t.1 t.2.1 t.2.2 u.1 u.2.1 u.2.2) (hY : Y = syN pq bq t.1 t.2.1 t.2.2 u.1 u.2.1 u.2.2) (hZ : Z = szN pq bq t.1 t.2.1 t.2.2 u.1 u.2.1 u.2.2) :
    (padd p q = .far → Z = 0) ∧ (padd p q ≠ .far → Z ≠ 0 ∧ X * finvq Z % pq = xOf (padd p q) ∧ Y * finvq Z % pq = yOf (padd p q)) := by
  rcases add_aff hp hq ht hu hX hY hZ (by rw [hZ]; exact szN_lt _ _ _ _ _ _) with ⟨h1, h2, h3⟩ | ⟨h1, h2, h3, h4, h5⟩
  · exact ⟨fun _ => h3, fun h => absurd h2 h⟩
  · exact ⟨fun h => (by rw [h] at h1; cases h1), fun _ => ⟨h3, h4, h5⟩⟩
theorem far_on : OnC bb (.far : Pt pp) := trivial
theorem out_far {s : Nums} {β : Places} {n R : Nat} {v : Value} (h : (resAV [.one (.slc R 0 1 57), .one (.lit (.bool true))]).rep s β n v) : v = .tuple #[.slice (some (at_ β R 0)) 1 57, .bool true] := by
  obtain ⟨vs, rfl, hl⟩ := h
  match vs, hl with
  | [a, b], ⟨ha, hb, _⟩ =>
    have hb' : b = .bool true := hb
    rw [ha.1, hb']
theorem out_on {s : Nums} {β : Places} {n R : Nat} {v : Value} (h : (resAV [.one (.slc R 0 57 57), .one (.lit (.bool true))]).rep s β n v) : v = .tuple #[.slice (some (at_ β R 0)) 57 57, .bool true] := by
  obtain ⟨vs, rfl, hl⟩ := h
  match vs, hl with
  | [a, b], ⟨ha, hb, _⟩ =>
    have hb' : b = .bool true := hb
    rw [ha.1, hb']
/-- Bytes of a point come out, and 'true'. -/
def OutPt (w : World) (p : Pt pp) (r : Value) (w' : World) : Prop := ∃ v, r = .tuple #[v, .bool true] ∧ NewAt w v w' p
theorem NewAt.of_eq {w w' : World} {v : Value} {p q : Pt pp} (h : NewAt w v w' p) (e : q = p) : NewAt w v w' q := e ▸ h
theorem pt_ne {x y : Nat} : ptN x y ≠ .far := fun h => by cases h
theorem on_eq {p : Pt pp} (h : p ≠ .far) : p = ptN (xOf p) (yOf p) := by
  rcases farOf_cases p with ⟨_, h2⟩ | ⟨_, h2⟩
  · exact absurd h2 h
  · exact h2
def ex35F : List Ex := [
.feq (.v 15) (.c 1),
.feq (.v 14) (.c 0),
.op 17 [(.v 0), (.v 1), (.v 5), (.v 2), (.v 3), (.v 7)],
.op 16 [(.v 0), (.v 1), (.v 5), (.v 2), (.v 3), (.v 7)],
.op 15 [(.v 0), (.v 1), (.v 5), (.v 2), (.v 3), (.v 7)],
.fcst 0,
.fcst 1,
.fcst 0,
.fcst 0,
.fcst 1,
.op 20 [(.v 2), (.v 3)],
.fcst 1,
.op 20 [(.v 0), (.v 1)]]
def dec35F : List (Nat × Bool) := [(4, true), (6, true), (15, true), (16, true)]
def fix35F : Fix := fixD 23 2 [] [] dec35F
def br35F : BriefR := ⟨.ret, 17, ex35F, [], [.one (.slc 14 0 1 57), .one (.lit (.bool true))], [some (farRow)]⟩
theorem run35F : briefR (tabX true pointPrims xm4) Try.f35 [14] (runF (tabX true pointPrims xm4) fix35F 3000 Try.f35 (startSt [.one (.sl 0 0 57), .one (.sl 1 0 57)] [(0, ptRow 0 1), (1, ptRow 2 3)] 4 2)) = some br35F := by kernel_rfl
theorem law35F {s : Nums} {x0 y0 : Nat} (g0 : s 0 = x0) (g1 : s 1 = y0) (lx0 : x0 < pq) (ly0 : y0 < pq) (hon0 : onN x0 y0 = 1) {x1 y1 : Nat} (g2 : s 2 = x1) (g3 : s 3 = y1) (lx1 : x1 < pq) (ly1 : y1 < pq) (hon1 : onN x1 y1 = 1) (hfar : padd (ptN x0 y0) (ptN x1 y1) = .far) (h : Holds s 17 ex35F) : s 4 = 1 ∧ s 6 = 1 ∧ s 15 = 1 ∧ s 16 = 1 := by
  obtain ⟨h16, h15, h14, h13, h12, h11, h10, h9, h8, h7, h6, h5, h4, _⟩ := h
  have e16 : s 16 = if s 15 = 1 then 1 else 0 := h16
  have e15 : s 15 = if s 14 = 0 then 1 else 0 := h15
  have e14 : s 14 = szN pq bq (s 0) (s 1) (s 5) (s 2) (s 3) (s 7) := h14
  have e13 : s 13 = syN pq bq (s 0) (s 1) (s 5) (s 2) (s 3) (s 7) := h13
  have e12 : s 12 = sxN pq bq (s 0) (s 1) (s 5) (s 2) (s 3) (s 7) := h12
  have e11 : s 11 = 0 := (show s 11 = 0 % pq from h11).trans (Nat.zero_mod _)
  have e10 : s 10 = 1 := (show s 10 = 1 % pq from h10).trans mod_one_pq
  have e9 : s 9 = 0 := (show s 9 = 0 % pq from h9).trans (Nat.zero_mod _)
  have e8 : s 8 = 0 := (show s 8 = 0 % pq from h8).trans (Nat.zero_mod _)
  have e7 : s 7 = 1 := (show s 7 = 1 % pq from h7).trans mod_one_pq
  have e6 : s 6 = onN (s 2) (s 3) := h6
  have e5 : s 5 = 1 := (show s 5 = 1 % pq from h5).trans mod_one_pq
  have e4 : s 4 = onN (s 0) (s 1) := h4
  rw [g0, g1, e5, g2, g3, e7] at e12 e13 e14
  have key := add_nums (onN_on hon0) (onN_on hon1) (rep_one fine x0 y0) (rep_one fine x1 y1) e12 e13 e14
  have k0 := key.1 hfar
  rw [if_pos k0] at e15
  rw [if_pos e15] at e16
  rw [g0, g1, hon0] at e4
  rw [g2, g3, hon1] at e6
  exact ⟨e4, e6, e15, e16⟩

def ex35N : List Ex := [
.fmul (.v 13) (.v 18),
.fcst 0,
.fmul (.v 12) (.v 18),
.fcst 0,
.finv (.v 14),
.fcst 0,
.feq (.v 15) (.c 1),
.feq (.v 14) (.c 0),
.op 17 [(.v 0), (.v 1), (.v 5), (.v 2), (.v 3), (.v 7)],
.op 16 [(.v 0), (.v 1), (.v 5), (.v 2), (.v 3), (.v 7)],
.op 15 [(.v 0), (.v 1), (.v 5), (.v 2), (.v 3), (.v 7)],
.fcst 0,
.fcst 1,
.fcst 0,
.fcst 0,
.fcst 1,
.op 20 [(.v 2), (.v 3)],
.fcst 1,
.op 20 [(.v 0), (.v 1)]]
def dec35N : List (Nat × Bool) := [(4, true), (6, true), (15, false), (16, false)]
def fix35N : Fix := fixD 23 2 [] [] dec35N
def br35N : BriefR := ⟨.ret, 23, ex35N, [], [.one (.slc 14 0 57 57), .one (.lit (.bool true))], [some (ptRow 20 22)]⟩
theorem run35N : briefR (tabX true pointPrims xm4) Try.f35 [14] (runF (tabX true pointPrims xm4) fix35N 3000 Try.f35 (startSt [.one (.sl 0 0 57), .one (.sl 1 0 57)] [(0, ptRow 0 1), (1, ptRow 2 3)] 4 2)) = some br35N := by kernel_rfl
theorem law35N {s : Nums} {x0 y0 : Nat} (g0 : s 0 = x0) (g1 : s 1 = y0) (lx0 : x0 < pq) (ly0 : y0 < pq) (hon0 : onN x0 y0 = 1) {x1 y1 : Nat} (g2 : s 2 = x1) (g3 : s 3 = y1) (lx1 : x1 < pq) (ly1 : y1 < pq) (hon1 : onN x1 y1 = 1) (hfar : padd (ptN x0 y0) (ptN x1 y1) ≠ .far) (h : Holds s 23 ex35N) : s 4 = 1 ∧ s 6 = 1 ∧ s 15 = 0 ∧ s 16 = 0 ∧ s 20 = xOf (padd (ptN x0 y0) (ptN x1 y1)) ∧ s 22 = yOf (padd (ptN x0 y0) (ptN x1 y1)) := by
  obtain ⟨h22, h21, h20, h19, h18, h17, h16, h15, h14, h13, h12, h11, h10, h9, h8, h7, h6, h5, h4, _⟩ := h
  have e22 : s 22 = s 13 * s 18 % pq := h22
  have e21 : s 21 = 0 := (show s 21 = 0 % pq from h21).trans (Nat.zero_mod _)
  have e20 : s 20 = s 12 * s 18 % pq := h20
  have e19 : s 19 = 0 := (show s 19 = 0 % pq from h19).trans (Nat.zero_mod _)
  have e18 : s 18 = finvq (s 14) := h18
  have e17 : s 17 = 0 := (show s 17 = 0 % pq from h17).trans (Nat.zero_mod _)
  have e16 : s 16 = if s 15 = 1 then 1 else 0 := h16
  have e15 : s 15 = if s 14 = 0 then 1 else 0 := h15
  have e14 : s 14 = szN pq bq (s 0) (s 1) (s 5) (s 2) (s 3) (s 7) := h14
  have e13 : s 13 = syN pq bq (s 0) (s 1) (s 5) (s 2) (s 3) (s 7) := h13
  have e12 : s 12 = sxN pq bq (s 0) (s 1) (s 5) (s 2) (s 3) (s 7) := h12
  have e11 : s 11 = 0 := (show s 11 = 0 % pq from h11).trans (Nat.zero_mod _)
  have e10 : s 10 = 1 := (show s 10 = 1 % pq from h10).trans mod_one_pq
  have e9 : s 9 = 0 := (show s 9 = 0 % pq from h9).trans (Nat.zero_mod _)
  have e8 : s 8 = 0 := (show s 8 = 0 % pq from h8).trans (Nat.zero_mod _)
  have e7 : s 7 = 1 := (show s 7 = 1 % pq from h7).trans mod_one_pq
  have e6 : s 6 = onN (s 2) (s 3) := h6
  have e5 : s 5 = 1 := (show s 5 = 1 % pq from h5).trans mod_one_pq
  have e4 : s 4 = onN (s 0) (s 1) := h4
  rw [g0, g1, e5, g2, g3, e7] at e12 e13 e14
  have key := add_nums (onN_on hon0) (onN_on hon1) (rep_one fine x0 y0) (rep_one fine x1 y1) e12 e13 e14
  obtain ⟨k0, k1, k2⟩ := key.2 hfar
  rw [if_neg k0] at e15
  rw [if_neg (by rw [e15]; decide)] at e16
  rw [e18, k1] at e20
  rw [e18, k2] at e22
  rw [g0, g1, hon0] at e4
  rw [g2, g3, hon1] at e6
  exact ⟨e4, e6, e15, e16, e20, e22⟩

def ex35fp : List Ex := [
.fmul (.v 17) (.v 22),
.fcst 0,
.fmul (.v 16) (.v 22),
.fcst 0,
.finv (.v 18),
.fcst 0,
.feq (.v 19) (.c 1),
.feq (.v 18) (.c 0),
.op 17 [(.v 6), (.v 8), (.v 9), (.v 0), (.v 1), (.v 11)],
.op 16 [(.v 6), (.v 8), (.v 9), (.v 0), (.v 1), (.v 11)],
.op 15 [(.v 6), (.v 8), (.v 9), (.v 0), (.v 1), (.v 11)],
.fcst 0,
.fcst 1,
.fcst 0,
.fcst 0,
.fcst 1,
.op 20 [(.v 0), (.v 1)],
.fcst 0,
.fcst 1,
.fcst 0,
.fcst 0,
.fcst 0,
.fcst 1,
.fcst 0,
.fcst 0]
def dec35fp : List (Nat × Bool) := [(10, true), (19, false), (20, false)]
def fix35fp : Fix := fixD 23 2 [] [] dec35fp
def br35fp : BriefR := ⟨.ret, 27, ex35fp, [], [.one (.slc 20 0 57 57), .one (.lit (.bool true))], [some (ptRow 24 26)]⟩
theorem run35fp : briefR (tabX true pointPrims xm4) Try.f35 [20] (runF (tabX true pointPrims xm4) fix35fp 3000 Try.f35 (startSt [.one (.sl 0 0 1), .one (.sl 1 0 57)] [(0, [.lit (.int .u8 0)]), (1, ptRow 0 1)] 2 2)) = some br35fp := by kernel_rfl
theorem law35fp {s : Nums} {x1 y1 : Nat} (g0 : s 0 = x1) (g1 : s 1 = y1) (lx1 : x1 < pq) (ly1 : y1 < pq) (hon1 : onN x1 y1 = 1) (hfar : padd .far (ptN x1 y1) ≠ .far) (h : Holds s 27 ex35fp) : s 10 = 1 ∧ s 19 = 0 ∧ s 20 = 0 ∧ s 24 = xOf (padd .far (ptN x1 y1)) ∧ s 26 = yOf (padd .far (ptN x1 y1)) := by
  obtain ⟨h26, h25, h24, h23, h22, h21, h20, h19, h18, h17, h16, h15, h14, h13, h12, h11, h10, h9, h8, h7, h6, h5, h4, h3, h2, _⟩ := h
  have e26 : s 26 = s 17 * s 22 % pq := h26
  have e25 : s 25 = 0 := (show s 25 = 0 % pq from h25).trans (Nat.zero_mod _)
  have e24 : s 24 = s 16 * s 22 % pq := h24
  have e23 : s 23 = 0 := (show s 23 = 0 % pq from h23).trans (Nat.zero_mod _)
  have e22 : s 22 = finvq (s 18) := h22
  have e21 : s 21 = 0 := (show s 21 = 0 % pq from h21).trans (Nat.zero_mod _)
  have e20 : s 20 = if s 19 = 1 then 1 else 0 := h20
  have e19 : s 19 = if s 18 = 0 then 1 else 0 := h19
  have e18 : s 18 = szN pq bq (s 6) (s 8) (s 9) (s 0) (s 1) (s 11) := h18
  have e17 : s 17 = syN pq bq (s 6) (s 8) (s 9) (s 0) (s 1) (s 11) := h17
  have e16 : s 16 = sxN pq bq (s 6) (s 8) (s 9) (s 0) (s 1) (s 11) := h16
  have e15 : s 15 = 0 := (show s 15 = 0 % pq from h15).trans (Nat.zero_mod _)
  have e14 : s 14 = 1 := (show s 14 = 1 % pq from h14).trans mod_one_pq
  have e13 : s 13 = 0 := (show s 13 = 0 % pq from h13).trans (Nat.zero_mod _)
  have e12 : s 12 = 0 := (show s 12 = 0 % pq from h12).trans (Nat.zero_mod _)
  have e11 : s 11 = 1 := (show s 11 = 1 % pq from h11).trans mod_one_pq
  have e10 : s 10 = onN (s 0) (s 1) := h10
  have e9 : s 9 = 0 := (show s 9 = 0 % pq from h9).trans (Nat.zero_mod _)
  have e8 : s 8 = 1 := (show s 8 = 1 % pq from h8).trans mod_one_pq
  have e7 : s 7 = 0 := (show s 7 = 0 % pq from h7).trans (Nat.zero_mod _)
  have e6 : s 6 = 0 := (show s 6 = 0 % pq from h6).trans (Nat.zero_mod _)
  have e5 : s 5 = 0 := (show s 5 = 0 % pq from h5).trans (Nat.zero_mod _)
  have e4 : s 4 = 1 := (show s 4 = 1 % pq from h4).trans mod_one_pq
  have e3 : s 3 = 0 := (show s 3 = 0 % pq from h3).trans (Nat.zero_mod _)
  have e2 : s 2 = 0 := (show s 2 = 0 % pq from h2).trans (Nat.zero_mod _)
  rw [e6, e8, e9, g0, g1, e11] at e16 e17 e18
  have key := add_nums far_on (onN_on hon1) (rep_zero fine) (rep_one fine x1 y1) e16 e17 e18
  obtain ⟨k0, k1, k2⟩ := key.2 hfar
  rw [if_neg k0] at e19
  rw [if_neg (by rw [e19]; decide)] at e20
  rw [e22, k1] at e24
  rw [e22, k2] at e26
  rw [g0, g1, hon1] at e10
  exact ⟨e10, e19, e20, e24, e26⟩

def ex35pf : List Ex := [
.fmul (.v 17) (.v 22),
.fcst 0,
.fmul (.v 16) (.v 22),
.fcst 0,
.finv (.v 18),
.fcst 0,
.feq (.v 19) (.c 1),
.feq (.v 18) (.c 0),
.op 17 [(.v 0), (.v 1), (.v 3), (.v 8), (.v 10), (.v 11)],
.op 16 [(.v 0), (.v 1), (.v 3), (.v 8), (.v 10), (.v 11)],
.op 15 [(.v 0), (.v 1), (.v 3), (.v 8), (.v 10), (.v 11)],
.fcst 0,
.fcst 1,
.fcst 0,
.fcst 0,
.fcst 0,
.fcst 1,
.fcst 0,
.fcst 0,
.fcst 0,
.fcst 1,
.fcst 0,
.fcst 0,
.fcst 1,
.op 20 [(.v 0), (.v 1)]]
def dec35pf : List (Nat × Bool) := [(2, true), (19, false), (20, false)]
def fix35pf : Fix := fixD 23 2 [] [] dec35pf
def br35pf : BriefR := ⟨.ret, 27, ex35pf, [], [.one (.slc 20 0 57 57), .one (.lit (.bool true))], [some (ptRow 24 26)]⟩
theorem run35pf : briefR (tabX true pointPrims xm4) Try.f35 [20] (runF (tabX true pointPrims xm4) fix35pf 3000 Try.f35 (startSt [.one (.sl 0 0 57), .one (.sl 1 0 1)] [(0, ptRow 0 1), (1, [.lit (.int .u8 0)])] 2 2)) = some br35pf := by kernel_rfl
theorem law35pf {s : Nums} {x0 y0 : Nat} (g0 : s 0 = x0) (g1 : s 1 = y0) (lx0 : x0 < pq) (ly0 : y0 < pq) (hon0 : onN x0 y0 = 1) (hfar : padd (ptN x0 y0) .far ≠ .far) (h : Holds s 27 ex35pf) : s 2 = 1 ∧ s 19 = 0 ∧ s 20 = 0 ∧ s 24 = xOf (padd (ptN x0 y0) .far) ∧ s 26 = yOf (padd (ptN x0 y0) .far) := by
  obtain ⟨h26, h25, h24, h23, h22, h21, h20, h19, h18, h17, h16, h15, h14, h13, h12, h11, h10, h9, h8, h7, h6, h5, h4, h3, h2, _⟩ := h
  have e26 : s 26 = s 17 * s 22 % pq := h26
  have e25 : s 25 = 0 := (show s 25 = 0 % pq from h25).trans (Nat.zero_mod _)
  have e24 : s 24 = s 16 * s 22 % pq := h24
  have e23 : s 23 = 0 := (show s 23 = 0 % pq from h23).trans (Nat.zero_mod _)
  have e22 : s 22 = finvq (s 18) := h22
  have e21 : s 21 = 0 := (show s 21 = 0 % pq from h21).trans (Nat.zero_mod _)
  have e20 : s 20 = if s 19 = 1 then 1 else 0 := h20
  have e19 : s 19 = if s 18 = 0 then 1 else 0 := h19
  have e18 : s 18 = szN pq bq (s 0) (s 1) (s 3) (s 8) (s 10) (s 11) := h18
  have e17 : s 17 = syN pq bq (s 0) (s 1) (s 3) (s 8) (s 10) (s 11) := h17
  have e16 : s 16 = sxN pq bq (s 0) (s 1) (s 3) (s 8) (s 10) (s 11) := h16
  have e15 : s 15 = 0 := (show s 15 = 0 % pq from h15).trans (Nat.zero_mod _)
  have e14 : s 14 = 1 := (show s 14 = 1 % pq from h14).trans mod_one_pq
  have e13 : s 13 = 0 := (show s 13 = 0 % pq from h13).trans (Nat.zero_mod _)
  have e12 : s 12 = 0 := (show s 12 = 0 % pq from h12).trans (Nat.zero_mod _)
  have e11 : s 11 = 0 := (show s 11 = 0 % pq from h11).trans (Nat.zero_mod _)
  have e10 : s 10 = 1 := (show s 10 = 1 % pq from h10).trans mod_one_pq
  have e9 : s 9 = 0 := (show s 9 = 0 % pq from h9).trans (Nat.zero_mod _)
  have e8 : s 8 = 0 := (show s 8 = 0 % pq from h8).trans (Nat.zero_mod _)
  have e7 : s 7 = 0 := (show s 7 = 0 % pq from h7).trans (Nat.zero_mod _)
  have e6 : s 6 = 1 := (show s 6 = 1 % pq from h6).trans mod_one_pq
  have e5 : s 5 = 0 := (show s 5 = 0 % pq from h5).trans (Nat.zero_mod _)
  have e4 : s 4 = 0 := (show s 4 = 0 % pq from h4).trans (Nat.zero_mod _)
  have e3 : s 3 = 1 := (show s 3 = 1 % pq from h3).trans mod_one_pq
  have e2 : s 2 = onN (s 0) (s 1) := h2
  rw [g0, g1, e3, e8, e10, e11] at e16 e17 e18
  have key := add_nums (onN_on hon0) far_on (rep_one fine x0 y0) (rep_zero fine) e16 e17 e18
  obtain ⟨k0, k1, k2⟩ := key.2 hfar
  rw [if_neg k0] at e19
  rw [if_neg (by rw [e19]; decide)] at e20
  rw [e22, k1] at e24
  rw [e22, k2] at e26
  rw [g0, g1, hon0] at e2
  exact ⟨e2, e19, e20, e24, e26⟩

def ex35ff : List Ex := [
.feq (.v 23) (.c 1),
.feq (.v 22) (.c 0),
.op 17 [(.v 4), (.v 6), (.v 7), (.v 12), (.v 14), (.v 15)],
.op 16 [(.v 4), (.v 6), (.v 7), (.v 12), (.v 14), (.v 15)],
.op 15 [(.v 4), (.v 6), (.v 7), (.v 12), (.v 14), (.v 15)],
.fcst 0,
.fcst 1,
.fcst 0,
.fcst 0,
.fcst 0,
.fcst 1,
.fcst 0,
.fcst 0,
.fcst 0,
.fcst 1,
.fcst 0,
.fcst 0,
.fcst 0,
.fcst 1,
.fcst 0,
.fcst 0,
.fcst 0,
.fcst 1,
.fcst 0,
.fcst 0]
def dec35ff : List (Nat × Bool) := [(23, true), (24, true)]
def fix35ff : Fix := fixD 23 2 [] [] dec35ff
def br35ff : BriefR := ⟨.ret, 25, ex35ff, [], [.one (.slc 26 0 1 57), .one (.lit (.bool true))], [some (farRow)]⟩
theorem run35ff : briefR (tabX true pointPrims xm4) Try.f35 [26] (runF (tabX true pointPrims xm4) fix35ff 3000 Try.f35 (startSt [.one (.sl 0 0 1), .one (.sl 1 0 1)] [(0, [.lit (.int .u8 0)]), (1, [.lit (.int .u8 0)])] 0 2)) = some br35ff := by kernel_rfl
theorem law35ff {s : Nums} (hfar : padd (.far : Pt pp) .far = .far) (h : Holds s 25 ex35ff) : s 23 = 1 ∧ s 24 = 1 := by
  obtain ⟨h24, h23, h22, h21, h20, h19, h18, h17, h16, h15, h14, h13, h12, h11, h10, h9, h8, h7, h6, h5, h4, h3, h2, h1, h0, _⟩ := h
  have e24 : s 24 = if s 23 = 1 then 1 else 0 := h24
  have e23 : s 23 = if s 22 = 0 then 1 else 0 := h23
  have e22 : s 22 = szN pq bq (s 4) (s 6) (s 7) (s 12) (s 14) (s 15) := h22
  have e21 : s 21 = syN pq bq (s 4) (s 6) (s 7) (s 12) (s 14) (s 15) := h21
  have e20 : s 20 = sxN pq bq (s 4) (s 6) (s 7) (s 12) (s 14) (s 15) := h20
  have e19 : s 19 = 0 := (show s 19 = 0 % pq from h19).trans (Nat.zero_mod _)
  have e18 : s 18 = 1 := (show s 18 = 1 % pq from h18).trans mod_one_pq
  have e17 : s 17 = 0 := (show s 17 = 0 % pq from h17).trans (Nat.zero_mod _)
  have e16 : s 16 = 0 := (show s 16 = 0 % pq from h16).trans (Nat.zero_mod _)
  have e15 : s 15 = 0 := (show s 15 = 0 % pq from h15).trans (Nat.zero_mod _)
  have e14 : s 14 = 1 := (show s 14 = 1 % pq from h14).trans mod_one_pq
  have e13 : s 13 = 0 := (show s 13 = 0 % pq from h13).trans (Nat.zero_mod _)
  have e12 : s 12 = 0 := (show s 12 = 0 % pq from h12).trans (Nat.zero_mod _)
  have e11 : s 11 = 0 := (show s 11 = 0 % pq from h11).trans (Nat.zero_mod _)
  have e10 : s 10 = 1 := (show s 10 = 1 % pq from h10).trans mod_one_pq
  have e9 : s 9 = 0 := (show s 9 = 0 % pq from h9).trans (Nat.zero_mod _)
  have e8 : s 8 = 0 := (show s 8 = 0 % pq from h8).trans (Nat.zero_mod _)
  have e7 : s 7 = 0 := (show s 7 = 0 % pq from h7).trans (Nat.zero_mod _)
  have e6 : s 6 = 1 := (show s 6 = 1 % pq from h6).trans mod_one_pq
  have e5 : s 5 = 0 := (show s 5 = 0 % pq from h5).trans (Nat.zero_mod _)
  have e4 : s 4 = 0 := (show s 4 = 0 % pq from h4).trans (Nat.zero_mod _)
  have e3 : s 3 = 0 := (show s 3 = 0 % pq from h3).trans (Nat.zero_mod _)
  have e2 : s 2 = 1 := (show s 2 = 1 % pq from h2).trans mod_one_pq
  have e1 : s 1 = 0 := (show s 1 = 0 % pq from h1).trans (Nat.zero_mod _)
  have e0 : s 0 = 0 := (show s 0 = 0 % pq from h0).trans (Nat.zero_mod _)
  rw [e4, e6, e7, e12, e14, e15] at e20 e21 e22
  have key := add_nums far_on far_on (rep_zero fine) (rep_zero fine) e20 e21 e22
  have k0 := key.1 hfar
  rw [if_pos k0] at e23
  rw [if_pos e23] at e24
  exact ⟨e23, e24⟩

theorem meets35 (w : World) (v1 v2 : Value) {p q : Pt pp} (h1 : PtAt w v1 p) (h2 : PtAt w v2 q) : Meets Try.prog 35 #[v1, v2] w (OutPt w (padd p q)) := by
  refine meets_of_calls Try.func35 (by kernel_rfl) (by kernel_rfl) ?_
  cases h1 with
  | far b0 o0 c0 hv0 hc0 hp0 =>
    subst hv0
    have lt0 : b0 < w.heap.size := World.block_lt_of_cell? w _ hp0
    cases h2 with
    | far b1 o1 c1 hv1 hc1 hp1 =>
      subst hv1
      have lt1 : b1 < w.heap.size := World.block_lt_of_cell? w _ hp1
      have hfar : padd (.far : Pt pp) .far = .far := rfl
      refine calls_briefR (F := fix35ff) (tabX_ok pointPrims_ok xm4_ok) run35ff Try.func35 Try.ntmps35 rfl (by decide +kernel) (by decide +kernel) (by decide +kernel) (show 2 ≤ 23 by decide) (show 2 < 4095 by decide) (fun _ => 0) (fun r => if r = 0 then (b0, o0) else (b1, o1))
        (vals := [_, _]) (fun s hs => ⟨⟨c0, hc0, rfl, show 0 < 2 by decide⟩, ⟨c1, hc1, rfl, show 1 < 2 by decide⟩, trivial⟩) (fun s hs => ⟨show 0 < 2 by decide, ⟨⟨_, hp0, rfl⟩, trivial⟩, show 1 < 2 by decide, ⟨⟨_, hp1, rfl⟩, trivial⟩, trivial⟩) (fun r l hl hr => by cases hr) (fun r _ => (by show (if r = 0 then (b0, o0) else (b1, o1)).1 < _; split; exact lt0; exact lt1)) (fun r q _ _ h => by cases h) ?_ ?_
      · intro s hs hH i bb hb
        obtain ⟨q0, q1⟩ := law35ff hfar hH
        have := findT_mem (show findT i dec35ff = some bb from hb)
        simp only [dec35ff, List.mem_cons, List.not_mem_nil, or_false, Prod.mk.injEq] at this
        rcases this with ⟨rfl, rfl⟩ | ⟨rfl, rfl⟩ <;> assumption
      · intro s hs hH st' β' a' w' v hv hm hag hr hbe
        obtain ⟨q0, q1⟩ := law35ff hfar hH
        injection (show [lookup 26 st'.mem] = [some farRow] from hm) with hm
        exact ⟨_, rfl, _, out_far hv, (newAt_far hr (l := List.replicate 56 (.lit (.int .u8 0))) hm (show 2 ≤ 26 by decide) hbe rfl).of_eq hfar⟩
    | on b1 o1 c1 x1 y1 hv1 hc1 hp1 lx1 ly1 hon1 =>
      subst hv1
      have lt1 : b1 < w.heap.size := World.block_lt_of_cell? w _ (hp1 0 4 rfl)
      have hfar : padd .far (ptN x1 y1) ≠ .far := fun h => by cases h
      refine calls_briefR (F := fix35fp) (tabX_ok pointPrims_ok xm4_ok) run35fp Try.func35 Try.ntmps35 rfl (by decide +kernel) (by decide +kernel) (by decide +kernel) (show 2 ≤ 23 by decide) (show 2 < 4095 by decide) (fun i => if i = 0 then x1 else y1) (fun r => if r = 0 then (b0, o0) else (b1, o1))
        (vals := [_, _]) (fun s hs => ⟨⟨c0, hc0, rfl, show 0 < 2 by decide⟩, ⟨c1, hc1, rfl, show 1 < 2 by decide⟩, trivial⟩) (fun s hs => ⟨show 0 < 2 by decide, ⟨⟨_, hp0, rfl⟩, trivial⟩, show 1 < 2 by decide, ptRow_row rfl hp1 (hs 0 (by decide)) (hs 1 (by decide)) lx1 ly1, trivial⟩) (fun r l hl hr => by cases hr) (fun r _ => (by show (if r = 0 then (b0, o0) else (b1, o1)).1 < _; split; exact lt0; exact lt1)) (fun r q _ _ h => by cases h) ?_ ?_
      · intro s hs hH i bb hb
        obtain ⟨q0, q1, q2, q3, q4⟩ := law35fp (hs 0 (by decide)) (hs 1 (by decide)) lx1 ly1 hon1 hfar hH
        have := findT_mem (show findT i dec35fp = some bb from hb)
        simp only [dec35fp, List.mem_cons, List.not_mem_nil, or_false, Prod.mk.injEq] at this
        rcases this with ⟨rfl, rfl⟩ | ⟨rfl, rfl⟩ | ⟨rfl, rfl⟩ <;> assumption
      · intro s hs hH st' β' a' w' v hv hm hag hr hbe
        obtain ⟨q0, q1, q2, q3, q4⟩ := law35fp (hs 0 (by decide)) (hs 1 (by decide)) lx1 ly1 hon1 hfar hH
        injection (show [lookup 20 st'.mem] = [some (ptRow 24 26)] from hm) with hm
        exact ⟨_, rfl, _, out_on hv, (newAt_on hr hm (show 2 ≤ 20 by decide) hbe q3 q4 (xOf_lt _) (yOf_lt _) rfl).of_eq (on_eq hfar)⟩
  | on b0 o0 c0 x0 y0 hv0 hc0 hp0 lx0 ly0 hon0 =>
    subst hv0
    have lt0 : b0 < w.heap.size := World.block_lt_of_cell? w _ (hp0 0 4 rfl)
    cases h2 with
    | far b1 o1 c1 hv1 hc1 hp1 =>
      subst hv1
      have lt1 : b1 < w.heap.size := World.block_lt_of_cell? w _ hp1
      have hfar : padd (ptN x0 y0) .far ≠ .far := fun h => by cases h
      refine calls_briefR (F := fix35pf) (tabX_ok pointPrims_ok xm4_ok) run35pf Try.func35 Try.ntmps35 rfl (by decide +kernel) (by decide +kernel) (by decide +kernel) (show 2 ≤ 23 by decide) (show 2 < 4095 by decide) (fun i => if i = 0 then x0 else y0) (fun r => if r = 0 then (b0, o0) else (b1, o1))
        (vals := [_, _]) (fun s hs => ⟨⟨c0, hc0, rfl, show 0 < 2 by decide⟩, ⟨c1, hc1, rfl, show 1 < 2 by decide⟩, trivial⟩) (fun s hs => ⟨show 0 < 2 by decide, ptRow_row rfl hp0 (hs 0 (by decide)) (hs 1 (by decide)) lx0 ly0, show 1 < 2 by decide, ⟨⟨_, hp1, rfl⟩, trivial⟩, trivial⟩) (fun r l hl hr => by cases hr) (fun r _ => (by show (if r = 0 then (b0, o0) else (b1, o1)).1 < _; split; exact lt0; exact lt1)) (fun r q _ _ h => by cases h) ?_ ?_
      · intro s hs hH i bb hb
        obtain ⟨q0, q1, q2, q3, q4⟩ := law35pf (hs 0 (by decide)) (hs 1 (by decide)) lx0 ly0 hon0 hfar hH
        have := findT_mem (show findT i dec35pf = some bb from hb)
        simp only [dec35pf, List.mem_cons, List.not_mem_nil, or_false, Prod.mk.injEq] at this
        rcases this with ⟨rfl, rfl⟩ | ⟨rfl, rfl⟩ | ⟨rfl, rfl⟩ <;> assumption
      · intro s hs hH st' β' a' w' v hv hm hag hr hbe
        obtain ⟨q0, q1, q2, q3, q4⟩ := law35pf (hs 0 (by decide)) (hs 1 (by decide)) lx0 ly0 hon0 hfar hH
        injection (show [lookup 20 st'.mem] = [some (ptRow 24 26)] from hm) with hm
        exact ⟨_, rfl, _, out_on hv, (newAt_on hr hm (show 2 ≤ 20 by decide) hbe q3 q4 (xOf_lt _) (yOf_lt _) rfl).of_eq (on_eq hfar)⟩
    | on b1 o1 c1 x1 y1 hv1 hc1 hp1 lx1 ly1 hon1 =>
      subst hv1
      have lt1 : b1 < w.heap.size := World.block_lt_of_cell? w _ (hp1 0 4 rfl)
      by_cases hfar : padd (ptN x0 y0) (ptN x1 y1) = .far
      · skip
        refine calls_briefR (F := fix35F) (tabX_ok pointPrims_ok xm4_ok) run35F Try.func35 Try.ntmps35 rfl (by decide +kernel) (by decide +kernel) (by decide +kernel) (show 2 ≤ 23 by decide) (show 2 < 4095 by decide) (fun i => if i = 0 then x0 else if i = 1 then y0 else if i = 2 then x1 else y1) (fun r => if r = 0 then (b0, o0) else (b1, o1))
          (vals := [_, _]) (fun s hs => ⟨⟨c0, hc0, rfl, show 0 < 2 by decide⟩, ⟨c1, hc1, rfl, show 1 < 2 by decide⟩, trivial⟩) (fun s hs => ⟨show 0 < 2 by decide, ptRow_row rfl hp0 (hs 0 (by decide)) (hs 1 (by decide)) lx0 ly0, show 1 < 2 by decide, ptRow_row rfl hp1 (hs 2 (by decide)) (hs 3 (by decide)) lx1 ly1, trivial⟩) (fun r l hl hr => by cases hr) (fun r _ => (by show (if r = 0 then (b0, o0) else (b1, o1)).1 < _; split; exact lt0; exact lt1)) (fun r q _ _ h => by cases h) ?_ ?_
        · intro s hs hH i bb hb
          obtain ⟨q0, q1, q2, q3⟩ := law35F (hs 0 (by decide)) (hs 1 (by decide)) lx0 ly0 hon0 (hs 2 (by decide)) (hs 3 (by decide)) lx1 ly1 hon1 hfar hH
          have := findT_mem (show findT i dec35F = some bb from hb)
          simp only [dec35F, List.mem_cons, List.not_mem_nil, or_false, Prod.mk.injEq] at this
          rcases this with ⟨rfl, rfl⟩ | ⟨rfl, rfl⟩ | ⟨rfl, rfl⟩ | ⟨rfl, rfl⟩ <;> assumption
        · intro s hs hH st' β' a' w' v hv hm hag hr hbe
          obtain ⟨q0, q1, q2, q3⟩ := law35F (hs 0 (by decide)) (hs 1 (by decide)) lx0 ly0 hon0 (hs 2 (by decide)) (hs 3 (by decide)) lx1 ly1 hon1 hfar hH
          injection (show [lookup 14 st'.mem] = [some farRow] from hm) with hm
          exact ⟨_, rfl, _, out_far hv, (newAt_far hr (l := List.replicate 56 (.lit (.int .u8 0))) hm (show 2 ≤ 14 by decide) hbe rfl).of_eq hfar⟩
      · skip
        refine calls_briefR (F := fix35N) (tabX_ok pointPrims_ok xm4_ok) run35N Try.func35 Try.ntmps35 rfl (by decide +kernel) (by decide +kernel) (by decide +kernel) (show 2 ≤ 23 by decide) (show 2 < 4095 by decide) (fun i => if i = 0 then x0 else if i = 1 then y0 else if i = 2 then x1 else y1) (fun r => if r = 0 then (b0, o0) else (b1, o1))
          (vals := [_, _]) (fun s hs => ⟨⟨c0, hc0, rfl, show 0 < 2 by decide⟩, ⟨c1, hc1, rfl, show 1 < 2 by decide⟩, trivial⟩) (fun s hs => ⟨show 0 < 2 by decide, ptRow_row rfl hp0 (hs 0 (by decide)) (hs 1 (by decide)) lx0 ly0, show 1 < 2 by decide, ptRow_row rfl hp1 (hs 2 (by decide)) (hs 3 (by decide)) lx1 ly1, trivial⟩) (fun r l hl hr => by cases hr) (fun r _ => (by show (if r = 0 then (b0, o0) else (b1, o1)).1 < _; split; exact lt0; exact lt1)) (fun r q _ _ h => by cases h) ?_ ?_
        · intro s hs hH i bb hb
          obtain ⟨q0, q1, q2, q3, q4, q5⟩ := law35N (hs 0 (by decide)) (hs 1 (by decide)) lx0 ly0 hon0 (hs 2 (by decide)) (hs 3 (by decide)) lx1 ly1 hon1 hfar hH
          have := findT_mem (show findT i dec35N = some bb from hb)
          simp only [dec35N, List.mem_cons, List.not_mem_nil, or_false, Prod.mk.injEq] at this
          rcases this with ⟨rfl, rfl⟩ | ⟨rfl, rfl⟩ | ⟨rfl, rfl⟩ | ⟨rfl, rfl⟩ <;> assumption
        · intro s hs hH st' β' a' w' v hv hm hag hr hbe
          obtain ⟨q0, q1, q2, q3, q4, q5⟩ := law35N (hs 0 (by decide)) (hs 1 (by decide)) lx0 ly0 hon0 (hs 2 (by decide)) (hs 3 (by decide)) lx1 ly1 hon1 hfar hH
          injection (show [lookup 14 st'.mem] = [some (ptRow 20 22)] from hm) with hm
          exact ⟨_, rfl, _, out_on hv, (newAt_on hr hm (show 2 ≤ 14 by decide) hbe q4 q5 (xOf_lt _) (yOf_lt _) rfl).of_eq (on_eq hfar)⟩
end P224
