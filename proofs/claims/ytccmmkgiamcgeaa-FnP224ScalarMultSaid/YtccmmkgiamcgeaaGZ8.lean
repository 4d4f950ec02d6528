/- The reference's Multiple: its loops. -/
import Derived.Test.YtccmmkgiamcgeaaGZ6
set_option linter.all false
namespace P224
open Go Go.RowKit Go.Proofs
set_option maxRecDepth 100000
set_option linter.unusedVariables false

theorem headO {h : Hd} (hh : IsHd h) (N k : Nat) : HeadOk (tmO N k) (memH h) 7 11 := by
  cases hh <;> exact ⟨rfl, rfl, rfl, rfl⟩
theorem headI {h : Hd} (hh : IsHd h) (N k j : Nat) : HeadOk (tmI N k j) (memH h) 7 11 := by
  cases hh <;> exact ⟨rfl, rfl, rfl, rfl⟩
theorem headJ {h : Hd} (hh : IsHd h) (N k j : Nat) : HeadOk (tmJ N k j) (memH h) 7 11 := by
  cases hh <;> exact ⟨rfl, rfl, rfl, rfl⟩
theorem mem_id {h : Hd} (hh : IsHd h) {ν : Nat → Nat} (hν : ∀ i, i < 5 → ν i = i) : (memH h).map (fun e => lookup e.1 (memH h)) = (memH h).map fun e => some (e.2.map (A0.rn id ν)) := by
  have e0 := hν 0 (by decide)
  have e1 := hν 1 (by decide)
  have e2 := hν 2 (by decide)
  have e3 := hν 3 (by decide)
  have e4 := hν 4 (by decide)
  have l : ∀ i, i < 5 → (l32s i).map (A0.rn id ν) = l32s i := fun i hi => by
    rw [l32s, List.map_map]
    apply List.map_congr_left
    intro k hk
    show A0.l32 (ν i) k = _
    rw [hν i hi]
  have f : ∀ k : List A0, k.map (A0.rn id ν) = k → (some k : Option (List A0)) = some (k.map (A0.rn id ν)) := fun k hk => by rw [hk]
  cases hh
  · show [some foldCells, some (l32s 0), some (l32s 1), some curveL, some [.lit (.bool false), .slc 1 0 7 7, .slc 2 0 7 7], some _, some _, some (l32s 2), some (l32s 3), some (l32s 4)] = [some foldCells, some ((l32s 0).map (A0.rn id ν)), some ((l32s 1).map (A0.rn id ν)), some curveL, some [.lit (.bool false), .slc 1 0 7 7, .slc 2 0 7 7], some _, some _, some ((l32s 2).map (A0.rn id ν)), some ((l32s 3).map (A0.rn id ν)), some ((l32s 4).map (A0.rn id ν))]
    rw [l 0 (by decide), l 1 (by decide), l 2 (by decide), l 3 (by decide), l 4 (by decide)]
    rfl
  · show [some foldCells, some (l32s 0), some (l32s 1), some curveL, some [.lit (.bool false), .slc 1 0 7 7, .slc 2 0 7 7], some _, some _, some (litR 1)] = [some foldCells, some ((l32s 0).map (A0.rn id ν)), some ((l32s 1).map (A0.rn id ν)), some curveL, some [.lit (.bool false), .slc 1 0 7 7, .slc 2 0 7 7], some _, some _, some (litR 1)]
    rw [l 0 (by decide), l 1 (by decide)]
    rfl
  · show [some foldCells, some (l32s 0), some (l32s 1), some curveL, some [.lit (.bool false), .slc 1 0 7 7, .slc 2 0 7 7], some _, some _, some (litR 1), some (litR 1), some (litR 0)] = [some foldCells, some ((l32s 0).map (A0.rn id ν)), some ((l32s 1).map (A0.rn id ν)), some curveL, some [.lit (.bool false), .slc 1 0 7 7, .slc 2 0 7 7], some _, some _, some (litR 1), some (litR 1), some (litR 0)]
    rw [l 0 (by decide), l 1 (by decide)]
    rfl

/-- At a head: the point so far is that multiple. -/
structure At24 (w0 : World) (β0 : Places) (x y : Nat) (h : Hd) (tl : List (Nat × AV)) (s : Nums) (K : Nat) (a : Act) (w : World) : Prop where
  rel : ∃ β, Rel (fixH 74 4 []) s β w0 (headSt tl (memH h) 7 11) a w ∧ ∀ r, r < 4 → β r = β0 r
  hd : IsHd h
  sx : s 0 = x
  sy : s 1 = y
  jn : JN s h.X h.Y h.Z (nsmul K (ptN x y))
theorem jn_congr {s s' : Nums} {h : Hd} (hh : IsHd h) (e : ∀ i, i < 5 → s' i = s i) {p : Pt pp} (hj : JN s h.X h.Y h.Z p) : JN s' h.X h.Y h.Z p := by
  have e0 := e 0 (by decide)
  have e1 := e 1 (by decide)
  have e2 := e 2 (by decide)
  have e3 := e 3 (by decide)
  have e4 := e 4 (by decide)
  cases hh
  · obtain ⟨h1, h2⟩ := hj
    refine ⟨?_, ?_⟩
    · show JRep (fi pp (s' 2)) (fi pp (s' 3)) (fi pp (s' 4)) p
      rw [e2, e3, e4]; exact h1
    · show s' 4 < pq
      rw [e4]; exact h2
  · obtain ⟨h1, h2⟩ := hj
    refine ⟨?_, h2⟩
    show JRep (fi pp (s' 0)) (fi pp (s' 1)) (fi pp 1) p
    rw [e0, e1]; exact h1
  · exact hj

section
variable {w0 : World} {β0 : Places} {x y : Nat}
/-- A piece that changes no memory. -/
theorem plain_hop {h : Hd} {tl tl' : List (Nat × AV)} {s : Nums} {K : Nat} {a : Act} {w : World} (hA : At24 w0 β0 x y h tl s K a w) (h1 : HeadOk tl (memH h) 7 11) (h2 : HeadOk tl' (memH h) 7 11) {l : List Code} {o : Out} {nx : Nat} {ex : List Ex} {ν : Nat → Nat} (hp : Plain l tl tl' o nx ex ν) (hν : ∀ i, i < 5 → ν i = i)
    (hsc : inScope nx ex = true) (hle : ex.length ≤ nx) (hn0 : nx - ex.length = 7) {Q : Exit → Act → World → Prop}
    (hn : ∀ (s1 : Nums) (a' : Act) (w' : World), (∀ i, i < 7 → s1 i = s i) → Holds s1 nx ex → At24 w0 β0 x y h tl' (fun i => s1 (ν i)) K a' w' → Q o.toExit a' w') : Reach Try.prog l Q a w := by
  obtain ⟨β, hr, hβ⟩ := hA.rel
  refine hopP (tabM_ok xb1_ok) hr h1 (by decide) ν (hp (memH h)) hsc hle hn0 (fun s1 _ _ i b hb => by cases hb) h2 (mem_id hA.hd hν) fun s1 β' a' w' e hH hb hr' => ?_
  refine hn s1 a' w' e hH ⟨⟨β', hr', fun r hr => (hb r hr).trans (hβ r hr)⟩, hA.hd, ?_, ?_, ?_⟩
  · show s1 (ν 0) = x
    rw [hν 0 (by decide), e 0 (by decide)]; exact hA.sx
  · show s1 (ν 1) = y
    rw [hν 1 (by decide), e 1 (by decide)]; exact hA.sy
  · exact jn_congr hA.hd (fun i hi => by show s1 (ν i) = s i; rw [hν i hi, e i (by omega)]) hA.jn
/-- A piece that makes a new head. -/
theorem piece_hop {h h' : Hd} {tl tl' : List (Nat × AV)} {s : Nums} {K K' : Nat} {a : Act} {w : World} (hA : At24 w0 β0 x y h tl s K a w) (h1 : HeadOk tl (memH h) 7 11) (h2 : HeadOk tl' (memH h') 7 11) (hh' : IsHd h') {c : Code} {d : List (Nat × Bool)} {nx : Nat} {ex : List Ex} {m p q r i j k : Nat}
    (hp : Piece c tl tl' h d nx ex h' m p q r i j k) (hmr : memR h' (ρ3 p q r) (ν3 i j k) = (memH h').map fun e => some (e.2.map (A0.rn (ρ3 p q r) (ν3 i j k)))) (hρ : RenOk 4 11 m (ρ3 p q r))
    (hsc : inScope nx ex = true) (hle : ex.length ≤ nx) (hn0 : nx - ex.length = 7)
    (hdec : ∀ s1 : Nums, (∀ i, i < 7 → s1 i = s i) → Holds s1 nx ex → Dec (fixH 74 4 d) s1)
    (hj : ∀ s1 : Nums, (∀ i, i < 7 → s1 i = s i) → Holds s1 nx ex → JN (fun t => s1 (ν3 i j k t)) h'.X h'.Y h'.Z (nsmul K' (ptN x y))) {Q : Exit → Act → World → Prop}
    (hn : ∀ (s1 : Nums) (a' : Act) (w' : World), (∀ i, i < 7 → s1 i = s i) → At24 w0 β0 x y h' tl' (fun t => s1 (ν3 i j k t)) K' a' w' → Q .normal a' w') : c.wp Try.prog Q a w := by
  obtain ⟨β, hr, hβ⟩ := hA.rel
  have hp' : peek (tabM xb1) (fixH 74 4 d) 3000 c (headSt tl (memH h) 7 11) m (tl'.map fun e => e.1) ((memH h').map fun e => ρ3 p q r e.1) = some ⟨.normal, nx, ex, tl'.map fun e => some (e.2.rn (ρ3 p q r) (ν3 i j k)), (memH h').map fun e => some (e.2.map (A0.rn (ρ3 p q r) (ν3 i j k)))⟩ := by
    rw [← hmr]; exact hp
  refine hop (tabM_ok xb1_ok) hr h1 (by decide) (ρ3 p q r) (ν3 i j k) hp' hsc hle hn0 hdec h2 hρ fun s1 β' a' w' e hH hb hr' => ?_
  refine hn s1 a' w' e ⟨⟨β', hr', fun r hr => (hb r hr).trans (hβ r hr)⟩, hh', ?_, ?_, hj s1 e hH⟩
  · show s1 (ν3 i j k 0) = x
    rw [show ν3 i j k 0 = 0 from rfl, e 0 (by decide)]; exact hA.sx
  · show s1 (ν3 i j k 1) = y
    rw [show ν3 i j k 1 = 1 from rfl, e 1 (by decide)]; exact hA.sy
theorem dec_of {s1 : Nums} {d : List (Nat × Bool)} (h : ∀ i b, (i, b) ∈ d → s1 i = b.toNat) : Dec (fixH 74 4 d) s1 := fun i b hb => h i b (findT_mem (show findT i d = some b from hb))

theorem fin_one_val : (fi pp 1 : Fin pp) = 1 := rfl
theorem nsmul_up (hon : onN x y = 1) (K : Nat) : nsmul (K + 1) (ptN x y) = padd (nsmul K (ptN x y)) (ptN x y) := by
  have := nsmul_add fine (onN_on hon) K 1
  rwa [nsmul_one] at this
/-- Twice. -/
theorem hop_twice (hon : onN x y = 1) {N k j : Nat} {h : Hd} {s : Nums} {K : Nat} {a : Act} {w : World} (hX : At24 w0 β0 x y h (tmI N k j) s K a w) {Q : Exit → Act → World → Prop}
    (hn : ∀ (s1 : Nums) (a' : Act) (w' : World), s1 5 = s 5 → At24 w0 β0 x y hA (tmI N k j) s1 (2 * K) a' w' → Q .normal a' w') : iT.wp Try.prog Q a w := by
  have key : ∀ s1 : Nums, (∀ i, i < 7 → s1 i = s i) → Holds s1 25 (twE h.X h.Y h.Z 7 []) → JN (fun t => s1 (ν3 17 22 24 t)) hA.X hA.Y hA.Z (nsmul (2 * K) (ptN x y)) := fun s1 e hH => by
    obtain ⟨h1, _⟩ := twE_ok (b := 7) (nsmul_on fine (onN_on hon) K) (jn_congr hX.hd (fun i hi => e i (by omega)) hX.jn) hH
    rw [← nsmul_two fine (onN_on hon)] at h1
    exact h1
  have fin : ∀ (s1 : Nums) (a' : Act) (w' : World), (∀ i, i < 7 → s1 i = s i) → At24 w0 β0 x y hA (tmI N k j) (fun t => s1 (ν3 17 22 24 t)) (2 * K) a' w' → Q .normal a' w' := fun s1 a' w' e h1 => hn (fun t => s1 (ν3 17 22 24 t)) a' w' (e 5 (by decide)) h1
  have hd := hX.hd
  cases hd with
  | a => exact piece_hop hX (headI .a N k j) (headI .a N k j) .a (pT_A N k j) rfl (renOk_dec (by decide)) (by decide +kernel) (by decide) rfl (fun s1 _ _ => dec_of fun i b hb => by cases hb) key fin
  | b => exact piece_hop hX (headI .b N k j) (headI .a N k j) .a (pT_B N k j) rfl (renOk_dec (by decide)) (by decide +kernel) (by decide) rfl (fun s1 _ _ => dec_of fun i b hb => by cases hb) key fin
  | c => exact piece_hop hX (headI .c N k j) (headI .a N k j) .a (pT_C N k j) rfl (renOk_dec (by decide)) (by decide +kernel) (by decide) rfl (fun s1 _ _ => dec_of fun i b hb => by cases hb) key fin

def hvN (s : Nums) : Nat := subq (s 0 * (s 4 * s 4 % pq) % pq) (s 2)
def rvN (s : Nums) : Nat := subq (s 1 * (s 4 * (s 4 * s 4 % pq) % pq) % pq) (s 3)
theorem hv_congr {s s1 : Nums} (e : ∀ i, i < 7 → s1 i = s i) : hvN s1 = hvN s ∧ rvN s1 = rvN s := by
  unfold hvN rvN
  rw [e 0 (by decide), e 1 (by decide), e 2 (by decide), e 3 (by decide), e 4 (by decide)]
  exact ⟨rfl, rfl⟩
theorem hrE_val {s : Nums} (hH : Holds s 15 hrE) : s 10 = hvN s ∧ s 13 = rvN s := by
  obtain ⟨_, h13, h12, h11, h10, h9, h8, _, _⟩ := hH
  have e8 : s 8 = s 4 * s 4 % pq := h8
  have e9 : s 9 = s 0 * s 8 % pq := h9
  have e10 : s 10 = subq (s 9) (s 2) := h10
  have e11 : s 11 = s 4 * s 8 % pq := h11
  have e12 : s 12 = s 1 * s 11 % pq := h12
  have e13 : s 13 = subq (s 12) (s 3) := h13
  exact ⟨by rw [e10, e9, e8]; rfl, by rw [e13, e12, e11, e8]; rfl⟩
theorem gE_rest {s : Nums} {g : Nat} {l : List Ex} (hH : Holds s (g + 12) (gE g l)) : Holds s g l := by
  obtain ⟨_, _, _, _, _, _, _, _, _, _, _, _, hl⟩ := hH
  exact hl
/-- One more, where the bit says so. -/
theorem hop_more (hon : onN x y = 1) {N k j : Nat} {s : Nums} {K : Nat} {a : Act} {w : World} (hX : At24 w0 β0 x y hA (tmJ N k j) s K a w) (h6 : s 6 = 0 ∨ s 6 = 1) {Q : Exit → Act → World → Prop}
    (hn : ∀ (h' : Hd) (s1 : Nums) (a' : Act) (w' : World), s1 5 = s 5 → At24 w0 β0 x y h' (tmI N k j) s1 (K + s 6) a' w' → Q .normal a' w') : iM.wp Try.prog Q a w := by
  have hc := onN_on hon
  have jn : ∀ s1 : Nums, (∀ i, i < 7 → s1 i = s i) → JN s1 (.v 2) (.v 3) (.v 4) (nsmul K (ptN x y)) := fun s1 e => jn_congr .a (fun i hi => e i (by omega)) hX.jn
  rcases h6 with h6 | h6
  · rw [h6] at hn
    exact piece_hop hX (headJ .a N k j) (headI .a N k j) .a (pM_0 N k j) rfl (renOk_dec (by decide)) (by decide +kernel) (by decide) rfl (fun s1 e _ => dec_of fun i b hb => by
      simp only [List.mem_cons, List.not_mem_nil, or_false, Prod.mk.injEq] at hb
      obtain ⟨rfl, rfl⟩ := hb
      rw [e 6 (by decide), h6]; rfl) (fun s1 e _ => jn s1 e) fun s1 a' w' e h1 => hn hA (fun t => s1 (ν3 2 3 4 t)) a' w' (e 5 (by decide)) h1
  rw [h6] at hn
  by_cases z : s 4 = 0
  · refine piece_hop hX (headJ .a N k j) (headI .b N k j) .b (pM_z N k j) rfl (renOk_dec (by decide)) (by decide +kernel) (by decide) rfl (fun s1 e hH => dec_of fun i b hb => ?_) (fun s1 e _ => ?_) fun s1 a' w' e h1 => hn hB (fun t => s1 (ν3 2 3 4 t)) a' w' (e 5 (by decide)) h1
    · have e7 : s1 7 = if s1 4 = 0 then 1 else 0 := hH.1
      rw [e 4 (by decide), if_pos z] at e7
      simp only [List.mem_cons, List.not_mem_nil, or_false, Prod.mk.injEq] at hb
      rcases hb with ⟨rfl, rfl⟩ | ⟨rfl, rfl⟩
      · rw [e 6 (by decide), h6]; rfl
      · exact e7
    · have hfar : nsmul K (ptN x y) = .far := by
        obtain ⟨hj, _⟩ := hX.jn
        cases hp : nsmul K (ptN x y) with
        | far => rfl
        | pt u v =>
          rw [hp] at hj
          exact absurd (show fi pp (s 4) = 0 by rw [z]; rfl) hj.1
      rw [nsmul_up hon, hfar, far_padd]
      refine ⟨?_, show 1 < pq by decide +kernel⟩
      show JRep (fi pp (s1 0)) (fi pp (s1 1)) (fi pp 1) (.pt (fi pp x) (fi pp y))
      rw [e 0 (by decide), e 1 (by decide), hX.sx, hX.sy]
      exact jone _ _ fi_one_ne
  have z7 : ∀ s1 : Nums, (∀ i, i < 7 → s1 i = s i) → Holds s1 15 hrE → s1 7 = 0 := fun s1 e hH => by
    have := (hrE_ok hH).1
    rw [e 4 (by decide), if_neg z] at this
    exact this
  have dec3 : ∀ (s1 : Nums), (∀ i, i < 7 → s1 i = s i) → s1 6 = 1 := fun s1 e => (e 6 (by decide)).trans h6
  by_cases hh : hvN s = 0
  · by_cases hr : rvN s = 0
    · have v : ∀ s1 : Nums, (∀ i, i < 7 → s1 i = s i) → Holds s1 16 (.feq (.v 13) (.c 0) :: hrE) → s1 14 = 1 ∧ s1 15 = 1 ∧ nsmul K (ptN x y) = ptN x y := fun s1 e hH => by
        obtain ⟨h15, hH⟩ := hH
        obtain ⟨v1, v2⟩ := hrE_val hH
        obtain ⟨g1, g2⟩ := hv_congr e
        obtain ⟨f7, f8, f10, _, f13, _, f14⟩ := hrE_ok hH
        have e15 : s1 15 = if s1 13 = 0 then 1 else 0 := h15
        rw [v1, g1, if_pos hh] at f14
        rw [v2, g2, if_pos hr] at e15
        refine ⟨f14, e15, ?_⟩
        obtain ⟨hj, lz⟩ := jn s1 e
        have lz : s1 4 < pq := lz
        have z0 : fi pp (s1 4) ≠ 0 := fun e' => z (by rw [← e 4 (by decide)]; exact of_fi0 e' lz)
        rw [v1, g1, hh] at f10
        rw [v2, g2, hr] at f13
        rw [e 0 (by decide), hX.sx, f8] at f10
        rw [e 1 (by decide), hX.sy, f8] at f13
        exact jsame fine z0 hj f10.symm f13.symm
      refine piece_hop hX (headJ .a N k j) (headI .a N k j) .a (pM_s N k j) rfl (renOk_dec (by decide)) (by decide +kernel) (by decide) rfl (fun s1 e hH => dec_of fun i b hb => ?_) (fun s1 e hH => ?_) fun s1 a' w' e h1 => hn hA (fun t => s1 (ν3 26 31 33 t)) a' w' (e 5 (by decide)) h1
      · obtain ⟨_, hH'⟩ := twE_ok (b := 16) (nsmul_on fine hc K) (jn s1 e) hH
        obtain ⟨g1, g2, _⟩ := v s1 e hH'
        have g0 := z7 s1 e hH'.2
        have g6 := dec3 s1 e
        simp only [List.mem_cons, List.not_mem_nil, or_false, Prod.mk.injEq] at hb
        rcases hb with ⟨rfl, rfl⟩ | ⟨rfl, rfl⟩ | ⟨rfl, rfl⟩ | ⟨rfl, rfl⟩ <;> assumption
      · obtain ⟨hj, hH'⟩ := twE_ok (b := 16) (nsmul_on fine hc K) (jn s1 e) hH
        obtain ⟨_, _, g3⟩ := v s1 e hH'
        rw [nsmul_up hon]
        rw [g3] at hj ⊢
        exact hj
    · have v : ∀ s1 : Nums, (∀ i, i < 7 → s1 i = s i) → Holds s1 16 (.feq (.v 13) (.c 0) :: hrE) → s1 14 = 1 ∧ s1 15 = 0 := fun s1 e hH => by
        obtain ⟨h15, hH⟩ := hH
        obtain ⟨v1, v2⟩ := hrE_val hH
        obtain ⟨g1, g2⟩ := hv_congr e
        obtain ⟨f7, f8, f10, _, f13, _, f14⟩ := hrE_ok hH
        have e15 : s1 15 = if s1 13 = 0 then 1 else 0 := h15
        rw [v1, g1, if_pos hh] at f14
        rw [v2, g2, if_neg hr] at e15
        exact ⟨f14, e15⟩
      refine piece_hop hX (headJ .a N k j) (headI .a N k j) .a (pM_h N k j) rfl (renOk_dec (by decide)) (by decide +kernel) (by decide) rfl (fun s1 e hH => dec_of fun i b hb => ?_) (fun s1 e hH => ?_) fun s1 a' w' e h1 => hn hA (fun t => s1 (ν3 22 26 27 t)) a' w' (e 5 (by decide)) h1
      · have hH' := gE_rest (g := 16) hH
        obtain ⟨g1, g2⟩ := v s1 e hH'
        have g0 := z7 s1 e hH'.2
        have g6 := dec3 s1 e
        simp only [List.mem_cons, List.not_mem_nil, or_false, Prod.mk.injEq] at hb
        rcases hb with ⟨rfl, rfl⟩ | ⟨rfl, rfl⟩ | ⟨rfl, rfl⟩ | ⟨rfl, rfl⟩ <;> assumption
      · have hH' := (gE_rest (g := 16) hH).2
        obtain ⟨f7, f8, f10, l10, f13, l13, f14⟩ := hrE_ok hH'
        obtain ⟨v1, v2⟩ := hrE_val hH'
        rw [nsmul_up hon]
        exact gE_ok (g := 16) ((e 0 (by decide)).trans hX.sx) ((e 1 (by decide)).trans hX.sy) (jn s1 e) (by rw [e 4 (by decide)]; exact z) (fun ⟨_, b⟩ => hr (by rw [← (hv_congr e).2, ← v2]; exact b)) f8 f10 l10 f13 l13 hH
  · have v : ∀ s1 : Nums, (∀ i, i < 7 → s1 i = s i) → Holds s1 15 hrE → s1 14 = 0 := fun s1 e hH => by
      obtain ⟨v1, v2⟩ := hrE_val hH
      obtain ⟨g1, g2⟩ := hv_congr e
      obtain ⟨f7, f8, f10, _, f13, _, f14⟩ := hrE_ok hH
      rw [v1, g1, if_neg hh] at f14
      exact f14
    refine piece_hop hX (headJ .a N k j) (headI .a N k j) .a (pM_g N k j) rfl (renOk_dec (by decide)) (by decide +kernel) (by decide) rfl (fun s1 e hH => dec_of fun i b hb => ?_) (fun s1 e hH => ?_) fun s1 a' w' e h1 => hn hA (fun t => s1 (ν3 21 25 26 t)) a' w' (e 5 (by decide)) h1
    · have hH' := gE_rest (g := 15) hH
      have g1 := v s1 e hH'
      have g0 := z7 s1 e hH'
      have g6 := dec3 s1 e
      simp only [List.mem_cons, List.not_mem_nil, or_false, Prod.mk.injEq] at hb
      rcases hb with ⟨rfl, rfl⟩ | ⟨rfl, rfl⟩ | ⟨rfl, rfl⟩ <;> assumption
    · have hH' := gE_rest (g := 15) hH
      obtain ⟨f7, f8, f10, l10, f13, l13, f14⟩ := hrE_ok hH'
      obtain ⟨v1, v2⟩ := hrE_val hH'
      rw [nsmul_up hon]
      exact gE_ok (g := 15) ((e 0 (by decide)).trans hX.sx) ((e 1 (by decide)).trans hX.sy) (jn s1 e) (by rw [e 4 (by decide)]; exact z) (fun ⟨b, _⟩ => hh (by rw [← (hv_congr e).1, ← v1]; exact b)) f8 f10 l10 f13 l13 hH
end
end P224
/- The reference's Multiple: the inner and the outer loop. -/
namespace P224
open Go Go.RowKit Go.Proofs
set_option maxRecDepth 100000
set_option linter.unusedVariables false

theorem numsF_get {k : IntKind} : ∀ {n i j : Nat} {a : A0}, (numsFrom k i n)[j]? = some a → a = .num k (i + j) ∧ j < n
  | 0, i, j, a, h => by simp [numsFrom] at h
  | n + 1, i, 0, a, h => by
    cases (show some (A0.num k i) = some a from h)
    exact ⟨rfl, Nat.succ_pos _⟩
  | n + 1, i, j + 1, a, h => by
    have h' : (numsFrom k (i + 1) n)[j]? = some a := h
    obtain ⟨e, hj⟩ := numsF_get h'
    exact ⟨by rw [e, show i + 1 + j = i + (j + 1) by omega], by omega⟩
theorem shapeO : kO = .seq o1 (.seq o3 (.seq (.block 1 (.seq i6 (.seq i7 (.block 2 (.loop kI))))) o13)) := by kernel_rfl
theorem shape24' : c24 = .seq k0 (.seq k1 (.seq k3 (.seq (.seq k4 (.block 0 (.loop kO))) kP))) := by kernel_rfl
theorem bits_step (K b j : Nat) : (2 * K + b / 2 ^ j % 2) * 2 ^ j + b % 2 ^ j = K * 2 ^ (j + 1) + b % 2 ^ (j + 1) := by
  have h : b % 2 ^ (j + 1) = b % 2 ^ j + 2 ^ j * (b / 2 ^ j % 2) := Nat.mod_pow_succ
  rw [h, Nat.pow_succ, Nat.add_mul, Nat.mul_comm (b / 2 ^ j % 2), Nat.mul_comm (2 ^ j) 2, ← Nat.mul_assoc, Nat.mul_comm K 2]
  omega
section
variable {w0 : World} {β0 : Places} {x y : Nat}
theorem inner (hon : onN x y = 1) (N k b : Nat) : ∀ (j : Nat), j ≤ 8 → ∀ {h : Hd} {s : Nums} {K : Nat} {a : Act} {w : World}, At24 w0 β0 x y h (tmI N k j) s K a w → s 5 = b → ∀ {Q : Exit → Act → World → Prop},
    (∀ (h' : Hd) (s' : Nums) (a' : Act) (w' : World), At24 w0 β0 x y h' (tmO N k) s' (K * 2 ^ j + b % 2 ^ j) a' w' → Q (.exit 2) a' w') → Code.rounds Try.prog kI Q (j + 1) a w
  | 0, _, h, s, K, a, w, hX, hb, Q, hn => by
    show kI.wp Try.prog (Exit.then (Code.rounds Try.prog kI Q 0) Q) a w
    have := plain_hop hX (headI hX.hd N k 0) (headO hX.hd N k) (pA_out N k) (fun _ _ => rfl) rfl (by decide) rfl (Q := Exit.then (Code.rounds Try.prog kI Q 0) Q) fun s1 a' w' e hH h1 => by
      show Q (.exit 2) a' w'
      refine hn h (fun i => s1 (id i)) a' w' ?_
      rw [Nat.pow_zero, Nat.mul_one, Nat.mod_one, Nat.add_zero]
      exact h1
    exact this
  | j + 1, hj, h, s, K, a, w, hX, hb, Q, hn => by
    show kI.wp Try.prog (Exit.then (Code.rounds Try.prog kI Q (j + 1)) Q) a w
    rw [shapeI]
    refine wp_seq ?_
    refine plain_hop (l := [iA]) hX (headI hX.hd N k (j + 1)) (headI hX.hd N k (j + 1)) (pA N k (j := j) (by omega)) (fun _ _ => rfl) rfl (by decide) rfl fun s1 a1 w1 e1 _ h1 => ?_
    show (Code.seq _ _).wp _ _ a1 w1
    refine wp_seq (wp_block (wp_seq ?_))
    refine hop_twice hon h1 fun s2 a2 w2 e2 h2 => ?_
    show (Code.seq _ _).wp _ _ a2 w2
    refine wp_seq ?_
    refine plain_hop (l := [iB]) h2 (headI .a N k (j + 1)) (headJ .a N k (j + 1)) (pB N k (j := j) (by omega)) (fun i hi => by show (if i = 6 then 9 else i) = i; rw [if_neg (by omega)]) rfl (show 3 ≤ 10 by decide) rfl fun s3 a3 w3 e3 hH3 h3 => ?_
    have hbit : s3 (νb 6) = b / 2 ^ j % 2 := by
      have := bitE_ok hH3
      have e5 : s3 5 = b := (e3 5 (by decide)).trans (e2.trans ((e1 5 (by decide)).trans hb))
      rw [e5] at this
      exact this
    have h5 : s3 (νb 5) = b := (e3 5 (by decide)).trans (e2.trans ((e1 5 (by decide)).trans hb))
    show iM.wp _ _ a3 w3
    refine hop_more hon h3 (by show s3 (νb 6) = 0 ∨ s3 (νb 6) = 1; rw [hbit]; exact Nat.mod_two_eq_zero_or_one _) fun h4 s4 a4 w4 e4 hh4 => ?_
    have hh4 : At24 w0 β0 x y h4 (tmI N k (j + 1)) s4 (2 * K + s3 (νb 6)) a4 w4 := hh4
    rw [hbit] at hh4
    show iE.wp _ _ a4 w4
    refine plain_hop (l := [iE]) hh4 (headI hh4.hd N k (j + 1)) (headI hh4.hd N k j) (pE N k (j := j) (by omega)) (fun _ _ => rfl) rfl (by decide) rfl fun s5 a5 w5 e6 _ hh5 => ?_
    show Code.rounds Try.prog kI Q (j + 1) a5 w5
    refine inner hon N k b j (by omega) hh5 ((e6 5 (by decide)).trans (e4.trans h5)) fun h' s' a' w' hh => hn h' s' a' w' ?_
    rw [bits_step] at hh
    exact hh

/-- The bytes that came in. -/
structure Row24 (w0 : World) (β0 : Places) (N : Nat) (ks : List Nat) : Prop where
  len : ks.length = N
  cell : ∀ i, i < N → w0.cell? (at_ β0 3 i) = some (.int .u8 ((ks.getD i 0 : Nat) : Int)) ∧ ks.getD i 0 < 256
theorem headO3 {h : Hd} (hh : IsHd h) {N : Nat} (hN : N = 28 ∨ N = 1) (k : Nat) : HeadOk (tmO N k) ((3, numsFrom .u8 7 N) :: memH h) (7 + N) 11 := by
  rcases hN with rfl | rfl <;> cases hh <;> exact ⟨by rfl, by rfl, by rfl, by rfl⟩
theorem mem_row {h : Hd} (hh : IsHd h) (l : List A0) {ν : Nat → Nat} (hν : ∀ i, i < 5 → ν i = i) : (memH h).map (fun e => lookup e.1 ((3, l) :: memH h)) = (memH h).map fun e => some (e.2.map (A0.rn id ν)) := by
  rw [← mem_id hh hν]
  cases hh <;> rfl
theorem ofB_drop {ks : List Nat} {k m : Nat} (h : k + (m + 1) = ks.length) : ofBytes (ks.drop k) = ks.getD k 0 * 256 ^ m + ofBytes (ks.drop (k + 1)) := by
  have hk : k < ks.length := by omega
  rw [List.drop_eq_getElem_cons hk, ofBytes, List.length_drop, show ks.length - (k + 1) = m by omega, List.getD_eq_getElem?_getD, List.getElem?_eq_getElem hk]
  rfl
theorem outer (hon : onN x y = 1) {N : Nat} (hN : N = 28 ∨ N = 1) (pO : ∀ k, k < N → PlainO N k) (pN : ∀ k, k < N → PlainN N k) (pX : Plain [kO] (tmO N N) (tmO N N) (.exit 0) 7 [] id) {ks : List Nat} (hks : Row24 w0 β0 N ks) :
    ∀ (m k : Nat), k + m = N → ∀ {h : Hd} {s : Nums} {K : Nat} {a : Act} {w : World}, At24 w0 β0 x y h (tmO N k) s K a w → ∀ {Q : Exit → Act → World → Prop},
    (∀ (h' : Hd) (s' : Nums) (a' : Act) (w' : World), At24 w0 β0 x y h' (tmO N N) s' (K * 256 ^ m + ofBytes (ks.drop k)) a' w' → Q (.exit 0) a' w') → Code.rounds Try.prog kO Q (m + 1) a w
  | 0, k, hk, h, s, K, a, w, hX, Q, hn => by
    have hk : k = N := by omega
    subst hk
    show kO.wp Try.prog (Exit.then (Code.rounds Try.prog kO Q 0) Q) a w
    have := plain_hop (l := [kO]) hX (headO hX.hd k k) (headO hX.hd k k) pX (fun _ _ => rfl) rfl (by decide) rfl (Q := Exit.then (Code.rounds Try.prog kO Q 0) Q) fun s1 a' w' e hH h1 => by
      show Q (.exit 0) a' w'
      refine hn h (fun i => s1 (id i)) a' w' ?_
      rw [Nat.pow_zero, Nat.mul_one, List.drop_eq_nil_of_le (by rw [hks.len]; exact Nat.le_refl _)]
      exact h1
    exact this
  | m + 1, k, hk, h, s, K, a, w, hX, Q, hn => by
    show kO.wp Try.prog (Exit.then (Code.rounds Try.prog kO Q (m + 1)) Q) a w
    obtain ⟨β, hr, hβ⟩ := hX.rel
    let s2 : Nums := fun i => if i < 7 then s i else ks.getD (i - 7) 0
    have lo : ∀ i, i < 7 → s2 i = s i := fun i hi => if_pos hi
    have hi' : ∀ i, i < N → s2 (7 + i) = ks.getD i 0 := fun i hi => by
      show (if 7 + i < 7 then s (7 + i) else ks.getD (7 + i - 7) 0) = _
      rw [if_neg (by omega), show 7 + i - 7 = i by omega]
    have h3 := headO hX.hd N k
    have hr2 : Rel (fixH 74 4 []) s2 β w0 (headSt (tmO N k) (memH h) 7 11) a w := by
      have := hr.renew (F2 := fixH 74 4 []) (s2 := s2) rfl rfl rfl rfl (fun _ => rfl) rfl (ρ := id) (ν := id) (tl := tmO N k) (ml := memH h) (nx2 := 7) (nr2 := 11) lo
        (by show (tmO N k).map (fun e => (tmL (tmO N k)).get e.1) = _; rw [h3.ts]; simp only [rn_idV]) h3.tb (by show (memH h).map (fun e => lookup e.1 (memH h)) = _; rw [h3.ms]; simp only [rn_idL]) h3.mb
        ⟨fun _ _ => rfl, fun r h1 h2 => ⟨h1, h2⟩, fun r q _ _ _ _ h => h, by decide⟩ (fun i b hb => by cases hb)
      exact this
    have hr3 := hr2.addRow (fun _ => rfl) (r := 3) (l := numsFrom .u8 7 N) (nx2 := 7 + N) (show 3 < 4 by decide) fun j z hz => by
      obtain ⟨rfl, hj⟩ := numsF_get hz
      obtain ⟨g1, g2⟩ := hks.cell j hj
      refine ⟨_, by rw [at_, hβ 3 (by decide), ← at_]; exact g1, ?_, ?_⟩
      · rw [hi' j hj]
      · rw [hi' j hj]; exact g2
    rw [shapeO]
    have e256 : (2 : Nat) ^ 8 = 256 := rfl
    obtain ⟨gk1, gk2⟩ := hks.cell k (by omega)
    have hhop := hopP (tabM_ok xb1_ok) hr3 (headO3 hX.hd hN k) (by decide) (νk k) (pO k (by omega) (memH h)) rfl (Nat.zero_le _) rfl (fun s1 _ _ i b hb => by cases hb) (headI hX.hd N k 8) (mem_row hX.hd _ fun i hi => by show (if i = 5 then 7 + k else i) = i; rw [if_neg (by omega)])
      (K := Exit.then ((Code.block 2 (.loop kI)).wp Try.prog (Exit.inBlock 1 (Exit.then (o13.wp Try.prog (Exit.then (Code.rounds Try.prog kO Q (m + 1)) Q)) (Exit.then (Code.rounds Try.prog kO Q (m + 1)) Q)))) (Exit.inBlock 1 (Exit.then (o13.wp Try.prog (Exit.then (Code.rounds Try.prog kO Q (m + 1)) Q)) (Exit.then (Code.rounds Try.prog kO Q (m + 1)) Q))))
      fun s1 β' a' w' e _ hb hr' => by
        show (Code.block 2 (.loop kI)).wp _ _ a' w'
        have lo1 : ∀ i, i < 5 → s1 (νk k i) = s i := fun i hi => by
          rw [show νk k i = i by unfold νk; rw [if_neg (by omega)], e i (by omega), lo i (by omega)]
        have hI : At24 w0 β0 x y h (tmI N k 8) (fun i => s1 (νk k i)) K a' w' := ⟨⟨β', hr', fun r hr => (hb r hr).trans (hβ r hr)⟩, hX.hd, (lo1 0 (by decide)).trans hX.sx, (lo1 1 (by decide)).trans hX.sy, jn_congr hX.hd lo1 hX.jn⟩
        have h5 : s1 (νk k 5) = ks.getD k 0 := (e (7 + k) (by omega)).trans (hi' k (by omega))
        refine wp_block (wp_loop_rounds 9 ?_)
        refine inner hon N k (ks.getD k 0) 8 (Nat.le_refl _) hI h5 fun h2 s2' a2 w2 hh2 => ?_
        show o13.wp Try.prog (Exit.then (Code.rounds Try.prog kO Q (m + 1)) Q) a2 w2
        rw [e256, Nat.mod_eq_of_lt gk2] at hh2
        refine plain_hop (l := [o13]) hh2 (headO hh2.hd N k) (headO hh2.hd N (k + 1)) (pN k (by omega)) (fun _ _ => rfl) rfl (by decide) rfl fun s4 a4 w4 e4 _ hh4 => ?_
        show Code.rounds Try.prog kO Q (m + 1) a4 w4
        refine outer hon hN pO pN pX hks m (k + 1) (by omega) hh4 fun h' s' a' w' hh => hn h' s' a' w' ?_
        have ek : (K * 256 + ks.getD k 0) * 256 ^ m + ofBytes (ks.drop (k + 1)) = K * 256 ^ (m + 1) + ofBytes (ks.drop k) := by
          have hd := ofB_drop (ks := ks) (k := k) (m := m) (by rw [hks.len]; exact hk)
          rw [hd, Nat.pow_succ, Nat.add_mul, Nat.mul_comm (256 ^ m) 256, ← Nat.mul_assoc, Nat.add_assoc]
        rw [ek] at hh
        exact hh
    refine wp_seq (hhop _ fun a1 w1 r1 => ?_)
    show (Code.seq _ _).wp _ _ a1 w1
    refine wp_seq (r1 _ fun a2 w2 r2 => ?_)
    show (Code.seq _ _).wp _ _ a2 w2
    refine wp_seq (wp_block (wp_seq (r2 _ fun a3 w3 r3 => ?_)))
    show (Code.seq _ _).wp _ _ a3 w3
    exact wp_seq r3
end
end P224
