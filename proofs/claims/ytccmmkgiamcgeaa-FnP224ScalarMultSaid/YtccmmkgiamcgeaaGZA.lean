/- The reference's Multiple: its contract. -/
import Derived.Test.YtccmmkgiamcgeaaGZ8
import Derived.Test.YtccmmkgiamcgeaaGP7
import Derived.Test.YtccmmkgiamcgeaaGV13
import Derived.Test.YtccmmkgiamcgeaaGV16
import Derived.Test.YtccmmkgiamcgeaaGV15a
import Derived.Test.YtccmmkgiamcgeaaGQ5a
set_option linter.all false
namespace P224
open Go Go.RowKit Go.Proofs
set_option maxRecDepth 100000
set_option linter.unusedVariables false

/-- A slice of N bytes. -/
def KAtN (N : Nat) (w : World) (v : Value) (ks : List Nat) : Prop :=
  ∃ b o c, v = .slice (some ⟨b, o, none⟩) N c ∧ N ≤ c ∧ ks.length = N ∧ ∀ (i : Nat) x, ks[i]? = some x → w.cell? ⟨b, o + i, none⟩ = some (.int .u8 (x : Int)) ∧ x < 256
/-- A new point of the reference, as Multiple makes it. -/
inductive NewM (w : World) (v : Value) (w' : World) : Pt pp → Prop where
  | far (hv : v = .agg #[.bool true, .slice none 0 0, .slice none 0 0]) (hb : Below w.heap.size w w') : NewM w v w' .far
  | on (bx b2 x y : Nat) (hv : v = .agg #[.bool false, .slice (some ⟨bx, 0, none⟩) 7 14, .slice (some ⟨b2, 0, none⟩) 7 14]) (hn : NewEls w x y bx b2 w') (hx : x < pq) (hy : y < pq) : NewM w v w' (ptN x y)
theorem NewM.of_eq {w w' : World} {v : Value} {p q : Pt pp} (h : NewM w v w' p) (e : q = p) : NewM w v w' q := e ▸ h
theorem sp_on14 {s : Nums} {β : Places} {n r q : Nat} {v : Value} (h : (resAV [.agg [.lit (.bool false), .slc r 0 7 14, .slc q 0 7 14]]).rep s β n v) : v = .agg #[.bool false, .slice (some (at_ β r 0)) 7 14, .slice (some (at_ β q 0)) 7 14] := by
  obtain ⟨us, rfl, hul, huc⟩ := h
  match us, hul, huc with
  | [z0, z1, z2], _, huc =>
    have k0 : z0 = _ := huc 0 _ z0 rfl rfl
    have k1 := (huc 1 _ z1 rfl rfl).1
    have k2 := (huc 2 _ z2 rfl rfl).1
    rw [k0, k1, k2]
theorem newM_on {s : Nums} {β : Places} {F : Fix} {w0 : World} {st : St} {a : Act} {w : World} (hr : Rel F s β w0 st a w) {r q i j x y : Nat} (m1 : lookup r st.mem = some (l32s i)) (m2 : lookup q st.mem = some (l32s j)) (n1 : F.nold ≤ r) (n2 : F.nold ≤ q) (hne : r ≠ q)
    (hbe : Below w0.heap.size w0 w) (e2 : s i = x) (e3 : s j = y) (hx : x < pq) (hy : y < pq) {v : Value} (hv : v = .agg #[.bool false, .slice (some (at_ β r 0)) 7 14, .slice (some (at_ β q 0)) 7 14]) : NewM w0 v w (ptN x y) := by
  obtain ⟨p1, _⟩ := hr.mem r _ m1
  obtain ⟨p2, _⟩ := hr.mem q _ m2
  obtain ⟨f1, f2, f3⟩ := hr.fresh r n1 p1
  obtain ⟨g1, g2, g3⟩ := hr.fresh q n2 p2
  have hd := hr.dist r q n1 n2 p1 p2 hne
  obtain ⟨u1, u2, _⟩ := row_el hr m1 n1 e2 (b := (β r).1) (by rw [← f3])
  obtain ⟨v1, v2, _⟩ := row_el hr m2 n2 e3 (b := (β q).1) (by rw [← g3])
  rw [at_, at_, f3, g3] at hv
  exact .on _ _ x y hv ⟨f1, f2, g1, g2, hd, u1, v1, u2, v2, hbe⟩ hx hy

theorem body24 : Try.f24.body = some c24 := by kernel_rfl
theorem end_wp {fn : Func} {T : Tab} (hT : T.Ok Try.prog) {d : List (Nat × Bool)} {s : Nums} {β : Places} {w0 : World} {tl : List (Nat × AV)} {ml : List (Nat × List A0)} {a : Act} {w : World} (hr : Rel (fixH 74 4 []) s β w0 (headSt tl ml 7 11) a w) (hh : HeadOk tl ml 7 11) {f : Nat} {c : Code} {rs : List Nat} {b : BriefR}
    (hb : briefR T fn rs (run T (fixH 74 4 d) f c (headSt tl ml 7 11)) = some b) (ho : b.o = .ret) (hout : b.out = []) (hsc : inScope b.nx b.exs = true) (hle : b.exs.length ≤ b.nx) (hn0 : b.nx - b.exs.length = 7)
    (hdec : ∀ s1 : Nums, (∀ i, i < 7 → s1 i = s i) → Holds s1 b.nx b.exs → Dec (fixH 74 4 d) s1) {R : Ending → World → Prop}
    (fin : ∀ (s1 : Nums) (st' : St) (β' : Places) (a' : Act) (w' : World) (v : Value), (∀ i, i < 7 → s1 i = s i) → Holds s1 b.nx b.exs → (resAV b.res).rep s1 β' st'.nr v → (rs.map fun r => lookup r st'.mem) = b.mem → Rel (fixH 74 4 d) s1 β' w0 st' a' w' → Below w0.heap.size w0 w' → R (.returned v) w') : c.wp Try.prog (bodyPost Try.prog fn R) a w := by
  obtain ⟨st', hrun, hnx, hexs, houts, hres, hmm⟩ := briefR_spec hb
  rw [ho] at hrun
  refine hop_wp hT hr hh (by decide) hrun hnx hexs hsc hle hn0 hdec fun s1 β' a' w' e hH hag hr' => ?_
  have hbe := hr'.below
  rw [houts, hout] at hbe
  obtain ⟨v, hv1, hv2⟩ := results_run hT hr' hres
  exact ⟨hr'.defs, v, hv1, fin s1 st' β' a' w' v e hH hv2 hmm hr' hbe⟩

theorem meets24 {N : Nat} (hN : N = 28 ∨ N = 1) (hstart : Starts N) (pO : ∀ k, k < N → PlainO N k) (pN : ∀ k, k < N → PlainN N k) (pX : Plain [kO] (tmO N N) (tmO N N) (.exit 0) 7 [] id) (w : World) (bf of : Nat) (v1 v2 : Value) {x y : Nat} {ks : List Nat} (hfo : FoldsAt w bf of) (h1 : KAtN N w v1 ks) (h2 : SPt w v2 (ptN x y)) (lx : x < pq) (ly : y < pq) (hon : onN x y = 1) :
    Meets Try.prog 24 #[curveV bf of, v1, v2] w fun r w' => NewM w r w' (nsmul (ofBytes ks) (ptN x y)) := by
  refine meets_of_calls Try.func24 (by kernel_rfl) (by kernel_rfl) ?_
  obtain ⟨b1, b2, hv2, hx1, hy1⟩ : ∃ b1 b2, v2 = .agg #[.bool false, .slice (some ⟨b1, 0, none⟩) 7 7, .slice (some ⟨b2, 0, none⟩) 7 7] ∧ El w b1 0 x ∧ El w b2 0 y := by
    generalize hp : ptN x y = p at h2
    cases h2 with
    | far => cases hp
    | on b1 b2 x' y' hv k1 k2 hx hy hon =>
      obtain ⟨rfl, rfl⟩ := ptN_inj (lt_pp lx) (lt_pp ly) (lt_pp hx) (lt_pp hy) hp
      exact ⟨b1, b2, hv, k1, k2⟩
  obtain ⟨b3, o3, c3, hv1, hc3, hlen, hk⟩ := h1
  subst hv1
  subst hv2
  have kget : ∀ m, m < N → w.cell? ⟨b3, o3 + m, none⟩ = some (.int .u8 ((ks.getD m 0 : Nat) : Int)) ∧ ks.getD m 0 < 256 := fun m hm => hk m _ (by rw [List.getD_eq_getElem?_getD, List.getElem?_eq_getElem (by omega)]; rfl)
  have hNpos : 0 < N := by omega
  have lt3 : b3 < w.heap.size := World.block_lt_of_cell? w _ (kget 0 hNpos).1
  let β0 : Places := fun r => if r = 0 then (bf, of) else if r = 1 then (b1, 0) else if r = 2 then (b2, 0) else (b3, o3)
  let s0 : Nums := fun i => if i = 0 then x else if i = 1 then y else ks.getD (i - 7) 0
  have sk : ∀ m, s0 (7 + m) = ks.getD m 0 := fun m => by
    show (if 7 + m = 0 then x else if 7 + m = 1 then y else ks.getD (7 + m - 7) 0) = _
    rw [if_neg (by omega), if_neg (by omega), show 7 + m - 7 = m by omega]
  have hargs : ArgsOk s0 β0 4 [curveAV 0, .one (.sl 3 0 N), .agg [.lit (.bool false), .slc 1 0 7 7, .slc 2 0 7 7]] [curveV bf of, .slice (some ⟨b3, o3, none⟩) N c3, .agg #[.bool false, .slice (some ⟨b1, 0, none⟩) 7 7, .slice (some ⟨b2, 0, none⟩) 7 7]] := by
    refine ⟨curve_rep rfl (by decide), ⟨c3, hc3, rfl, show 3 < 4 by decide⟩, ⟨[_, _, _], rfl, rfl, fun k a z ha hz => ?_⟩, trivial⟩
    match k, ha, hz with
    | 0, ha, hz => cases ha; cases hz; exact rfl
    | 1, ha, hz => cases ha; cases hz; exact ⟨rfl, show 1 < 4 by decide⟩
    | 2, ha, hz => cases ha; cases hz; exact ⟨rfl, show 2 < 4 by decide⟩
    | k + 3, ha, hz => cases ha
  have hmem : MemOk s0 β0 4 w [(0, foldCells), (1, l32s 0), (2, l32s 1), (3, numsFrom .u8 7 N)] :=
    ⟨show 0 < 4 by decide, fold_row rfl hfo, show 1 < 4 by decide, el_row rfl hx1 rfl (lt224 lx), show 2 < 4 by decide, el_row rfl hy1 rfl (lt224 ly), show 3 < 4 by decide, row_nums N 7 0 (fun m hm => by
      rw [Nat.zero_add, sk m]
      exact kget m hm), trivial⟩
  obtain ⟨hla, hget⟩ := hargs.get
  have hr0 : Rel (fixH 74 4 []) s0 β0 w (st24 N) { tmps := [curveV bf of, Value.slice (some ⟨b3, o3, none⟩) N c3, .agg #[.bool false, .slice (some ⟨b1, 0, none⟩) 7 7, .slice (some ⟨b2, 0, none⟩) 7 7]].toArray ++ Array.replicate (Try.f24.ntmps - [curveV bf of, Value.slice (some ⟨b3, o3, none⟩) N c3, .agg #[.bool false, .slice (some ⟨b1, 0, none⟩) 7 7, .slice (some ⟨b2, 0, none⟩) 7 7]].toArray.size) undef, defers := [] } w :=
    rel_start hla Try.ntmps24 (show 3 ≤ 74 by decide) (show 3 < 4095 by decide) hget hmem.get (fun r l hl hw => by cases hw) (fun r _ => by
      show (if r = 0 then (bf, of) else if r = 1 then (b1, 0) else if r = 2 then (b2, 0) else (b3, o3)).1 < _
      repeat' split
      · exact hfo.lt
      · exact hx1.lt
      · exact hy1.lt
      · exact lt3) (fun r q _ _ h => by cases h) (fun i b h => by cases h)
  refine calls_of_wp Try.func24 body24 ?_
  obtain ⟨st', hrun, hout, hnx, hexs, hnr, htm, hmm⟩ := peekS_spec hstart
  have row : Row24 w β0 N ks := ⟨hlen, fun i hi => by
    have := kget i hi
    exact this⟩
  have fin : ∀ (h' : Hd) (s' : Nums) (a' : Act) (w' : World), At24 w β0 x y h' (tmO N N) s' (ofBytes ks) a' w' → kP.wp Try.prog (bodyPost Try.prog Try.f24 fun e w'' => ∃ v, e = .returned v ∧ NewM w v w'' (nsmul (ofBytes ks) (ptN x y))) a' w' := fun h' s' a' w' hX => by
    obtain ⟨β, hr, hβ⟩ := hX.rel
    have hp := nsmul_on fine (onN_on hon) (ofBytes ks)
    have zE : ∀ s1 : Nums, (∀ i, i < 7 → s1 i = s' i) → h'.X.val s1 = h'.X.val s' ∧ h'.Y.val s1 = h'.Y.val s' ∧ h'.Z.val s1 = h'.Z.val s' := fun s1 e => by
      have hd := hX.hd
      cases hd
      · exact ⟨e 2 (by decide), e 3 (by decide), e 4 (by decide)⟩
      · exact ⟨e 0 (by decide), e 1 (by decide), rfl⟩
      · exact ⟨rfl, rfl, rfl⟩
    obtain ⟨hj, lz⟩ := hX.jn
    by_cases hz : h'.Z.val s' = 0
    · have hfar : nsmul (ofBytes ks) (ptN x y) = .far := by
        cases hq : nsmul (ofBytes ks) (ptN x y) with
        | far => rfl
        | pt u v =>
          rw [hq] at hj
          exact absurd (show fi pp (h'.Z.val s') = 0 by rw [hz]; rfl) hj.1
      refine end_wp (tabM_ok xb1_ok) hr (headO hX.hd N N) (endF N hX.hd) rfl rfl (by cases hX.hd <;> decide +kernel) (by show 1 ≤ 8; decide) rfl (fun s1 e hH => dec_of fun i b hb => ?_) fun s1 st1 β1 a1 w1 v e hH hv _ hr1 hbe => ?_
      · simp only [List.mem_cons, List.not_mem_nil, or_false, Prod.mk.injEq] at hb
        obtain ⟨rfl, rfl⟩ := hb
        have e7 : s1 7 = if h'.Z.val s1 = 0 then 1 else 0 := hH.1
        rw [(zE s1 e).2.2, if_pos hz] at e7
        exact e7
      · exact ⟨v, rfl, (NewM.far (sp_far hv) hbe).of_eq hfar⟩
    · have hne : nsmul (ofBytes ks) (ptN x y) ≠ .far := fun hq => by
        rw [hq] at hj
        exact hz (of_fi0 hj lz)
      have eq := on_eq hne
      refine end_wp (tabM_ok xb1_ok) hr (headO hX.hd N N) (endA N hX.hd) rfl rfl (by cases hX.hd <;> decide +kernel) (by show 6 ≤ 13; decide) rfl (fun s1 e hH => dec_of fun i b hb => ?_) fun s1 st1 β1 a1 w1 v e hH hv hm hr1 hbe => ?_
      · simp only [List.mem_cons, List.not_mem_nil, or_false, Prod.mk.injEq] at hb
        obtain ⟨rfl, rfl⟩ := hb
        have e7 : s1 7 = if h'.Z.val s1 = 0 then 1 else 0 := hH.2.2.2.2.2.1
        rw [(zE s1 e).2.2, if_neg hz] at e7
        exact e7
      · obtain ⟨h12, h11, h10, h9, h8, _, _⟩ := hH
        obtain ⟨zx, zy, zz⟩ := zE s1 e
        have e8 : s1 8 = finvq (h'.Z.val s1) := h8
        have e9 : s1 9 = s1 8 * s1 8 % pq := h9
        have e10 : s1 10 = h'.X.val s1 * s1 9 % pq := h10
        have e11 : s1 11 = s1 9 * s1 8 % pq := h11
        have e12 : s1 12 = h'.Y.val s1 * s1 11 % pq := h12
        rw [zz] at e8
        rw [zx] at e10
        rw [zy] at e12
        rw [eq] at hj
        obtain ⟨j1, j2⟩ := jaff hj
        have g10 : s1 10 = xOf (nsmul (ofBytes ks) (ptN x y)) := by
          have : fi pp (s1 10) = fi pp (xOf (nsmul (ofBytes ks) (ptN x y))) := by
            rw [fi_fmul e10, fi_fmul e9, e8, fi_finvq]
            exact j1
          have h := of_fi this (by rw [e10]; exact lt_pp (Nat.mod_lt _ pq_pos))
          rw [h, fi_val, Nat.mod_eq_of_lt (lt_pp (xOf_lt _))]
        have g12 : s1 12 = yOf (nsmul (ofBytes ks) (ptN x y)) := by
          have : fi pp (s1 12) = fi pp (yOf (nsmul (ofBytes ks) (ptN x y))) := by
            rw [fi_fmul e12, fi_fmul e11, fi_fmul e9, e8, fi_finvq]
            exact j2
          have h := of_fi this (by rw [e12]; exact lt_pp (Nat.mod_lt _ pq_pos))
          rw [h, fi_val, Nat.mod_eq_of_lt (lt_pp (yOf_lt _))]
        have hm' : [lookup 15 st1.mem, lookup 17 st1.mem] = [some (l32s 10), some (l32s 12)] := hm
        injection hm' with m1 m2
        injection m2 with m2 _
        exact ⟨v, rfl, (newM_on hr1 m1 m2 (show 4 ≤ 15 by decide) (show 4 ≤ 17 by decide) (by decide) hbe g10 g12 (xOf_lt _) (yOf_lt _) (sp_on14 hv)).of_eq eq⟩
  have reach := runL_reach (tabM_ok xb1_ok) hr0 hrun (by rw [hexs]; trivial) (K := Exit.then ((Code.block 0 (.loop kO)).wp Try.prog (Exit.then (kP.wp Try.prog (bodyPost Try.prog Try.f24 fun e w'' => ∃ v, e = .returned v ∧ NewM w v w'' (nsmul (ofBytes ks) (ptN x y)))) (bodyPost Try.prog Try.f24 fun e w'' => ∃ v, e = .returned v ∧ NewM w v w'' (nsmul (ofBytes ks) (ptN x y)))))
      (Exit.then (kP.wp Try.prog (bodyPost Try.prog Try.f24 fun e w'' => ∃ v, e = .returned v ∧ NewM w v w'' (nsmul (ofBytes ks) (ptN x y)))) (bodyPost Try.prog Try.f24 fun e w'' => ∃ v, e = .returned v ∧ NewM w v w'' (nsmul (ofBytes ks) (ptN x y))))) fun β' a' w' hag hr' => by
    show (Code.block 0 (.loop kO)).wp _ _ a' w'
    have hr1 : Rel (fixH 74 4 []) s0 (fun r => β' (ρs r)) w (headSt (tmO N 0) (memH hC) 7 11) a' w' := by
      refine hr'.renew (F2 := fixH 74 4 []) rfl rfl rfl rfl (fun _ => rfl) hout (ρ := ρs) (ν := id) (fun i _ => rfl) ?_ (headO .c N 0).tb ?_ (headO .c N 0).mb ?_ (fun i b h => by cases h)
      · have := htm
        rw [List.map_map] at this
        exact this
      · have := hmm
        rw [List.map_map] at this
        exact this
      · have := renOk_dec (nold := 4) (nr2 := 11) (nr := 14) (ρ := ρs) (by decide)
        exact ⟨this.old, fun r h1 h2 => ⟨(this.new r h1 h2).1, Nat.lt_of_lt_of_le (this.new r h1 h2).2 hnr⟩, this.inj, this.le⟩
    have hX : At24 w β0 x y hC (tmO N 0) s0 0 a' w' := by
      refine ⟨⟨_, hr1, fun r hr => ?_⟩, .c, rfl, rfl, ?_⟩
      · show β' (ρs r) = β0 r
        rw [show ρs r = r by unfold ρs; rw [if_neg (by omega), if_neg (by omega), if_neg (by omega)]]
        exact hag r hr
      · rw [show nsmul 0 (ptN x y) = .far by rw [nsmul]]
        exact ⟨show fi pp 0 = 0 from rfl, show 0 < pq from pq_pos⟩
    refine wp_block (wp_loop_rounds (N + 1) ?_)
    refine outer hon hN pO pN pX row N 0 (Nat.zero_add N) hX fun h' s' a2 w2 hh => ?_
    rw [Nat.zero_mul, Nat.zero_add, List.drop_zero] at hh
    exact fin h' s' a2 w2 hh
  rw [shape24']
  refine wp_seq (reach _ fun a1 w1 r1 => ?_)
  show (Code.seq _ _).wp _ _ a1 w1
  refine wp_seq (r1 _ fun a2 w2 r2 => ?_)
  show (Code.seq _ _).wp _ _ a2 w2
  refine wp_seq (r2 _ fun a3 w3 r3 => ?_)
  show (Code.seq _ _).wp _ _ a3 w3
  exact wp_seq (wp_seq r3)
end P224
/- The reference's Multiple, as a call that the executor knows. -/
namespace P224
open Go Go.RowKit Go.Proofs
set_option maxRecDepth 100000
set_option linter.unusedVariables false

def elG (F : Fix) (st : St) (r : Nat) : Option Nat := match lookup r st.mem with
  | some (.l32 i k :: l) => bif sameAll (.l32 i k :: l) (l32s i) && decide (F.nold ≤ r) then some i else none
  | _ => none
section
variable {s : Nums} {β : Places} {F : Fix} {w0 : World} {st : St} {a : Act} {w : World}
theorem elG_ok (hr : Rel F s β w0 st a w) {r i : Nat} (h : elG F st r = some i) : El w (β r).1 0 (s i) ∧ (β r).2 = 0 ∧ r < st.nr := by
  unfold elG at h
  split at h
  · rename_i j k l hl
    obtain ⟨hd, h⟩ := bif_some h
    cases h
    simp only [Bool.and_eq_true, decide_eq_true_eq] at hd
    obtain ⟨h1, h2⟩ := hd
    rw [sameAll_eq h1] at hl
    obtain ⟨hrn, _⟩ := hr.mem r _ hl
    obtain ⟨_, _, f3⟩ := hr.fresh r h2 hrn
    obtain ⟨u, _, _⟩ := row_el hr hl h2 rfl (b := (β r).1) (by rw [← f3])
    exact ⟨u, f3, hrn⟩
  · cases h
theorem sptG_rep (hr : Rel F s β w0 st a w) {r1 r2 i j : Nat} (h1 : elG F st r1 = some i) (h2 : elG F st r2 = some j) (l1 : s i < pq) (l2 : s j < pq) (hon : onN (s i) (s j) = 1) {v : Value}
    (hv : (AV.agg [.lit (.bool false), .slc r1 0 7 7, .slc r2 0 7 7]).rep s β st.nr v) : SPt w v (ptN (s i) (s j)) := by
  obtain ⟨us, rfl, hul, huc⟩ := hv
  obtain ⟨e1, z1, _⟩ := elG_ok hr h1
  obtain ⟨e2, z2, _⟩ := elG_ok hr h2
  match us, hul, huc with
  | [u0, u1, u2], _, huc =>
    have k0 : u0 = _ := huc 0 _ u0 rfl rfl
    have k1 := (huc 1 _ u1 rfl rfl).1
    have k2 := (huc 2 _ u2 rfl rfl).1
    rw [at_, z1] at k1
    rw [at_, z2] at k2
    exact .on _ _ _ _ (by rw [k0, k1, k2]) e1 e2 l1 l2 hon
end
theorem NewM.is_far {w w' : World} {v : Value} {p : Pt pp} (h : NewM w v w' p) (hp : p = .far) : v = .agg #[.bool true, .slice none 0 0, .slice none 0 0] ∧ Below w.heap.size w w' := by
  cases h with
  | far hv hb => exact ⟨hv, hb⟩
  | on bx b2 x y hv hn hx hy => cases hp
theorem NewM.is_on {w w' : World} {v : Value} {p : Pt pp} (h : NewM w v w' p) {x y : Nat} (hp : p = ptN x y) (hx : x < pq) (hy : y < pq) : ∃ bx b2, v = .agg #[.bool false, .slice (some ⟨bx, 0, none⟩) 7 14, .slice (some ⟨b2, 0, none⟩) 7 14] ∧ NewEls w x y bx b2 w' := by
  cases h with
  | far hv hb => cases hp
  | on bx b2 x' y' hv hn hx' hy' =>
    obtain ⟨rfl, rfl⟩ := ptN_inj (lt_pp hx') (lt_pp hy') (lt_pp hx) (lt_pp hy) hp
    exact ⟨bx, b2, hv, hn⟩

def is128 (N : Nat) : Bool := N == 28 || N == 1
theorem meets24' {N : Nat} (hN : is128 N = true) (w : World) (bf of : Nat) (v1 v2 : Value) {x y : Nat} {ks : List Nat} (hfo : FoldsAt w bf of) (h1 : KAtN N w v1 ks) (h2 : SPt w v2 (ptN x y)) (lx : x < pq) (ly : y < pq) (hon : onN x y = 1) :
    Meets Try.prog 24 #[curveV bf of, v1, v2] w fun r w' => NewM w r w' (nsmul (ofBytes ks) (ptN x y)) := by
  simp only [is128, Bool.or_eq_true, beq_iff_eq] at hN
  rcases hN with rfl | rfl
  · exact meets24 (.inl rfl) starts28 (fun k => pO28) (fun k => pN28) pX28 w bf of v1 v2 hfo h1 h2 lx ly hon
  · exact meets24 (.inr rfl) starts1 (fun k => pO1) (fun k => pN1) pX1 w bf of v1 v2 hfo h1 h2 lx ly hon

/-- The checks: below the prime, on the curve; the scalar's number. -/
def mulE (i j : Nat) (ws : List Wd) (l : List Ex) : List Ex := .op 2 ws :: .op 20 [.v i, .v j] :: .op 4 [.v j, .c pq] :: .op 4 [.v i, .c pq] :: l
def v3 (i j k : Nat) : List Wd := [.v i, .v j, .v k]
def x24a : X := fun F st args => match args with
  | [cv, .one k, .agg [.lit (.bool false), .slc r1 0 7 7, .slc r2 0 7 7]] => match isCurve st cv, k.asSl, elG F st r1, elG F st r2 with
    | some _, some (r, o, N), some i, some j => match wordsAt .u8 st.mem r o N with
      | some ws => bif is128 N && F.dec st.nx == some true && F.dec (st.nx + 1) == some true && F.dec (st.nx + 2) == some true then
          match F.dec (st.nx + 4) with
          | some true => some (.agg [.lit (.bool true), .lit (.slice none 0 0), .lit (.slice none 0 0)], { st with nx := st.nx + 5, exs := .op 25 (v3 i j (st.nx + 3)) :: mulE i j ws st.exs })
          | some false => some (.agg [.lit (.bool false), .slc st.nr 0 7 14, .slc (st.nr + 1) 0 7 14], { st with mem := (st.nr + 1, l32s (st.nx + 6)) :: (st.nr, l32s (st.nx + 5)) :: st.mem, nr := st.nr + 2, nx := st.nx + 7, exs := .op 27 (v3 i j (st.nx + 3)) :: .op 26 (v3 i j (st.nx + 3)) :: .op 25 (v3 i j (st.nx + 3)) :: mulE i j ws st.exs })
          | none => none
        else none
      | none => none
    | _, _, _, _ => none
  | _ => none
theorem katN_of {s : Nums} {β : Places} {F : Fix} {w0 : World} {st : St} {a : Act} {w : World} (hr : Rel F s β w0 st a w) {x : A0} {v : Value} {r o N : Nat} {ws : List Wd} (hk : x.asSl = some (r, o, N)) (hv : x.rep s β st.nr v) (hw : wordsAt .u8 st.mem r o N = some ws) : KAtN N w v (ws.map (Wd.val s)) := by
  obtain ⟨⟨c, hva, hca⟩, _⟩ := asSl_rep hk hv
  obtain ⟨l1, l2, l3⟩ := wordsAt_rep hr hw
  exact ⟨_, _, c, hva, hca, by rw [List.length_map, l1], fun i x hx => by
    rw [List.getElem?_map] at hx
    cases hj : ws[i]? with
    | none => rw [hj] at hx; cases hx
    | some y =>
      rw [hj] at hx
      cases hx
      obtain ⟨g1, g2⟩ := l3 i y hj
      rw [at_, ← Nat.add_assoc] at g1
      exact ⟨g1, g2⟩⟩
theorem lt_dec {a b : Nat} (h : (1 : Nat) = if a < b then 1 else 0) : a < b := by
  by_cases hh : a < b
  · exact hh
  · rw [if_neg hh] at h; cases h
theorem x24a_ok : XOk Try.prog 24 x24a := by
  refine ⟨fun {F st st' args av} h => ?_, fun {s β F w0 st st' a w args vs av} hr h hargs hH => ?_⟩
  · unfold x24a at h
    split at h
    · split at h
      · split at h
        · obtain ⟨_, h⟩ := bif_some h
          split at h
          · cases h; exact ⟨⟨[_, _, _, _, _], rfl, rfl⟩, Nat.le_refl _⟩
          · cases h; exact ⟨⟨[_, _, _, _, _, _, _], rfl, rfl⟩, Nat.le_add_right _ _⟩
          · cases h
        · cases h
      · cases h
    · cases h
  · unfold x24a at h
    split at h
    · rename_i cv k r1 r2
      split at h
      · rename_i q r o N i j hcv hk h1 h2
        split at h
        · rename_i ws hw
          obtain ⟨hd, h⟩ := bif_some h
          simp only [Bool.and_eq_true, beq_iff_eq] at hd
          obtain ⟨⟨⟨hN, hd1⟩, hd2⟩, hd3⟩ := hd
          obtain ⟨u0, u1, u2, rfl, hu0, hu1, hu2⟩ := avs3 hargs
          obtain ⟨rf, of⟩ := q
          obtain ⟨c0, c1, c2⟩ := isCurve_rep hr hcv hu0
          have d1 := hr.dec _ _ hd1
          have d2 := hr.dec _ _ hd2
          have d3 := hr.dec _ _ hd3
          have main : ∀ l, Holds s (st.nx + 4) (mulE i j ws l) → s (st.nx + 3) = ofBytes (ws.map (Wd.val s)) ∧ Meets Try.prog 24 #[u0, u1, u2] w fun r w' => NewM w r w' (mulN (s i) (s j) (s (st.nx + 3))) := fun l hl => by
            obtain ⟨m3, m2, m1, m0, _⟩ := hl
            have e0 : s st.nx = if s i < pq then 1 else 0 := m0
            have e1 : s (st.nx + 1) = if s j < pq then 1 else 0 := m1
            have e2 : s (st.nx + 2) = onN (s i) (s j) := m2
            have e3 : s (st.nx + 3) = ofBytes (ws.map (Wd.val s)) := m3
            rw [d1] at e0
            rw [d2] at e1
            rw [d3] at e2
            have l1 := lt_dec e0
            have l2 := lt_dec e1
            refine ⟨e3, ?_⟩
            rw [c0, e3]
            exact meets24' hN w _ _ _ _ c1 (katN_of hr hk hu1 hw) (sptG_rep hr h1 h2 l1 l2 e2.symm hu2) l1 l2 e2.symm
          split at h
          · rename_i hd5
            cases h
            have d5 := hr.dec _ _ hd5
            obtain ⟨_, hme⟩ := main _ hH.2
            have e5 : s (st.nx + 4) = farOf (mulN (s i) (s j) (s (st.nx + 3))) := hH.1
            rw [d5] at e5
            intro o' a' next Q hn
            refine hme o' a' next Q fun r w' hnew => hn _ _ ?_
            rcases farOf_cases (mulN (s i) (s j) (s (st.nx + 3))) with ⟨_, g⟩ | ⟨g, _⟩
            · obtain ⟨hv, hb⟩ := hnew.is_far g
              refine ⟨β, Agree.refl _ _, ⟨[_, _, _], hv, rfl, fun k a x ha hx => ?_⟩, (hr.kept hb).nums _ _⟩
              match k, ha, hx with
              | 0, ha, hx => cases ha; cases hx; exact rfl
              | 1, ha, hx => cases ha; cases hx; exact rfl
              | 2, ha, hx => cases ha; cases hx; exact rfl
              | k + 3, ha, hx => cases ha
            · rw [g] at e5; cases e5
          · rename_i hd5
            cases h
            have d5 := hr.dec _ _ hd5
            obtain ⟨_, hme⟩ := main _ hH.2.2.2
            have e5 : s (st.nx + 4) = farOf (mulN (s i) (s j) (s (st.nx + 3))) := hH.2.2.1
            have ex : s (st.nx + 5) = xOf (mulN (s i) (s j) (s (st.nx + 3))) := hH.2.1
            have ey : s (st.nx + 6) = yOf (mulN (s i) (s j) (s (st.nx + 3))) := hH.1
            rw [d5] at e5
            intro o' a' next Q hn
            refine hme o' a' next Q fun r w' hnew => hn _ _ ?_
            rcases farOf_cases (mulN (s i) (s j) (s (st.nx + 3))) with ⟨g, _⟩ | ⟨_, g⟩
            · rw [g] at e5; cases e5
            · obtain ⟨bx, b2, hv, hels⟩ := hnew.is_on g (xOf_lt _) (yOf_lt _)
              obtain ⟨β', g1, g2, g3, g4⟩ := hr.els hels ex ey
              refine ⟨β', g1, ⟨[_, _, _], hv, rfl, fun k a x ha hx => ?_⟩, g4.nums _ _⟩
              match k, ha, hx with
              | 0, ha, hx => cases ha; cases hx; exact rfl
              | 1, ha, hx => cases ha; cases hx; exact ⟨by rw [at_, g2], Nat.lt_succ_of_lt (Nat.lt_succ_self _)⟩
              | 2, ha, hx => cases ha; cases hx; exact ⟨by rw [at_, g3], Nat.lt_succ_self _⟩
              | k + 3, ha, hx => cases ha
          · cases h
        · cases h
      · cases h
    · cases h
noncomputable def x24 : X := X.or x24a (inlX (tabX true [] xq2) 2000 Try.f24)
theorem x24_ok : XOk Try.prog 24 x24 := X.or_ok x24a_ok (inlX_ok (tabX_ok noPrims_ok xq2_ok) 2000 Try.func24 (by kernel_rfl))
end P224
/- The rest of a byte by 4; the tables of the laws on the generator. -/
namespace P224
open Go Go.RowKit Go.Proofs
set_option maxRecDepth 100000
set_option linter.unusedVariables false

def qRem4 : Qx := fun F _ st op => match op with
  | .binOp .rem t x (.const (.int .u8 4)) _ => match st.ev x with
    | .one (.num .u8 i) => some (.one (.num .u8 st.nx), [.op 28 [.v i, .c 4]])
    | _ => none
  | _ => none
theorem rem4_run {P : Program} (t : TypeId) (n : Nat) (w : World) : (binOp .rem t (.int .u8 (n : Int)) (.int .u8 4)).run P w = .ok (.int .u8 ((n % 4 : Nat) : Int)) w := by
  have h1 := litBin_run (P := P) (op := .rem) (k := .u8) (a := (n : Int)) (b := 4) (v := .int .u8 ((n : Int).tmod 4)) rfl t w
  have h2 : (n : Int).tmod 4 = ((n % 4 : Nat) : Int) := by
    rw [Int.tmod_eq_emod_of_nonneg (by omega)]
    omega
  rw [h1, h2]
theorem qRem4_ok {P : Program} : QextOk P qRem4 := by
  intro s β F L st a o av l m hd h ht hH w0 hw0
  unfold qRem4 at h
  split at h
  · rename_i t x t' ho
    split at h
    · rename_i i hx
      cases h
      have hr := ev_rep ht x
      rw [hx] at hr
      obtain ⟨hv, _⟩ := hr
      have e : s st.nx = s i % 4 := hH.1
      refine ⟨.int .u8 ((s i % 4 : Nat) : Int), ⟨by rw [e], by rw [e]; exact Nat.lt_trans (Nat.mod_lt _ (by decide)) (by decide)⟩, fun w _ => ?_⟩
      have hc : a.eval (.const (.int .u8 4)) = .int .u8 4 := rfl
      simp only [execOp, ho, hv, hc, Sem.run_bind, guard_int, Result.andThen, rem4_run, Sem.run_pure]
    · cases h
  · cases h
def tabG (xs : List (Nat × X)) : Tab := { tabX true pointPrims xs with qext := Qx.or qRem4 (tabX true pointPrims xs).qext }
theorem tabG_ok {xs : List (Nat × X)} (hx : ∀ f g, (f, g) ∈ xs → XOk Try.prog f g) : (tabG xs).Ok Try.prog :=
  let h := tabX_ok pointPrims_ok hx
  { mixed := h.mixed, arr := h.arr, fld := h.fld, var := h.var, zero := h.zero, bld := h.bld, slc := h.slc, mks := h.mks, kind := h.kind, elem := h.elem, prim := h.prim, lext := h.lext
    qext := QextOk.or qRem4_ok h.qext }
noncomputable def xg0 : List (Nat × X) := with1 ((24, x24) :: (45, x45) :: xm1) pointPrims 2000 76 Try.f76
theorem xg0_ok : XsOk xg0 := with1_ok pointPrims_ok (xcons_ok x24_ok (xcons_ok x45_ok xm1_ok)) Try.func76 (by kernel_rfl)
noncomputable def xg1 : List (Nat × X) := with1 xg0 pointPrims 2000 48 Try.f48
theorem xg1_ok : XsOk xg1 := with1_ok pointPrims_ok xg0_ok Try.func48 (by kernel_rfl)

/-! ### what a law's text takes -/
def fixG (nt n : Nat) (d : List (Nat × Bool)) (np : List (Nat × (Nat × Nat))) : Fix := { nt := nt, nold := n, wr := fun _ => false, sep := fun _ _ => false, dec := fun i => findT i d, np := fun r => findT r np }
theorem map_bs28G (s : Nums) (i : Nat) : (bs28 i).map (Wd.val s) = (List.range 28).map fun k => by8 (27 - k) (s i) := by
  rw [bs28, List.map_map]
  rfl
theorem same_ptG {s : Nums} {i j k l n : Nat} (h : s n = opVal 19 (((Wd.c 4 :: (bs28 i ++ bs28 j)) ++ (Wd.c 4 :: (bs28 k ++ bs28 l))).map (Wd.val s))) (h1 : s i = s k) (h2 : s j = s l) : s n = 1 := by
  rw [List.map_append] at h
  rw [h, opVal_19 _ _ (by simp [bs28])]
  rw [if_pos]
  simp only [List.map_cons, List.map_append, map_bs28G, h1, h2]
theorem on_onG {x y : Nat} (h : OnC bb (ptN x y)) : onN x y = 1 := by
  unfold onN
  exact if_pos h
theorem on_ofG {p : Pt pp} (h : OnC bb p) (hn : farOf p = 0) : onN (xOf p) (yOf p) = 1 := by
  have he : p = ptN (xOf p) (yOf p) := on_eq fun e => by rw [e] at hn; cases hn
  exact on_onG (he ▸ h)
theorem mul_casesG {x y : Nat} (hon : onN x y = 1) (k : Nat) : (farOf (mulN x y k) = 1 ∧ mulN x y k = .far) ∨
    ∃ X Y, farOf (mulN x y k) = 0 ∧ xOf (mulN x y k) = X ∧ yOf (mulN x y k) = Y ∧ X < pq ∧ Y < pq ∧ onN X Y = 1 ∧ mulN x y k = ptN X Y := by
  rcases farOf_cases (mulN x y k) with h | ⟨h1, h2⟩
  · exact .inl h
  · exact .inr ⟨_, _, h1, rfl, rfl, xOf_lt _, yOf_lt _, on_ofG (nsmul_on fine (onN_on hon) k) h1, h2⟩
theorem is_farG {p : Pt pp} (h : p = .far) : farOf p = 1 := by rw [h]; rfl
theorem is_ptG {p : Pt pp} {X Y : Nat} (h : p = ptN X Y) (hX : X < pq) (hY : Y < pq) : farOf p = 0 ∧ xOf p = X ∧ yOf p = Y := by
  rw [h]
  exact ⟨rfl, Nat.mod_eq_of_lt (lt_pp hX), Nat.mod_eq_of_lt (lt_pp hY)⟩
end P224
/- The table of law ScalarMult. -/
namespace P224
open Go Go.RowKit Go.Proofs
set_option maxRecDepth 100000
set_option linter.unusedVariables false
noncomputable def xt14 : List (Nat × X) := (24, x24) :: (45, x45) :: (46, x46) :: (28, X.or x28g x28) :: xm1
theorem xt14_ok : XsOk xt14 := xcons_ok x24_ok (xcons_ok x45_ok (xcons_ok x46_ok (xcons_ok (X.or_ok x28g_ok x28_ok) xm1_ok)))
end P224
