/- Proved: FnP224ScalarMult: whatever the inputs, the law returns true and they read as before. No condition. -/
import Derived.Test.YtccmmkgiamcgeaaGL14
import Derived.Test.YtccmmkgiamcgeaaGRS
import Derived.Test.YtccmmkgiamcgeaaGRA
set_option linter.all false
namespace Go.Proofs.Ytccmmkgiamcgeaa.fnP224ScalarMult
open Go.ChangeShapes Go.WideShapes Go.ChangeAt Go.RowKit
open Go.ChangeMaps (open_string shut_string)
open P224
set_option linter.unusedVariables false
set_option maxRecDepth 100000

theorem c1 : Rows.fnP224ScalarMultRow.wf (OpenSpec.ofChange Rows.fnP224ScalarMultSpec) = true := by kernel_rfl
theorem c2 : laidOutB Try.prog = true := Base.laidOut
theorem c3 : mapsRowed Try.prog = true := Base.rowed
theorem c4 : Try.f14.params.all (Try.prog.readableRec ·) = true := by kernel_rfl
theorem c5 : namedTie Try.prog Rows.fnP224ScalarMultRow.named Rows.fnP224ScalarMultSpec.vars = true := by kernel_rfl
theorem c6 : (Rows.fnP224ScalarMultRow.stops == []) = true := by kernel_rfl
theorem c7 : (Try.prog.stops == []) = true := by rw [Base.stops]; rfl
theorem c8 : (Rows.fnP224ScalarMultRow.knobs == []) = true := by kernel_rfl
theorem c9 : (Try.prog.stopKnobs == []) = true := by rw [Base.knobs]; rfl
theorem c10 : (Rows.fnP224ScalarMultRow.inPlace == Try.prog.inPlace 14) = true := by kernel_rfl
theorem c11 : (Rows.fnP224ScalarMultRow.unfollowed == Try.prog.unfollowed 14) = true := by kernel_rfl
theorem c12 : (Rows.fnP224ScalarMultRow.recurses == Try.prog.recurses 14) = true := by kernel_rfl
theorem c13 : (Rows.fnP224ScalarMultRow.named == Try.prog.varsNamed 14) = true := by kernel_rfl
theorem c14 : (Rows.fnP224ScalarMultRow.maps == (Try.f14.params.toList ++ Rows.fnP224ScalarMultSpec.plain.varTypes Try.prog).any (Try.prog.mapsRec ·)) = true := by kernel_rfl
theorem c15 : (Rows.fnP224ScalarMultRow.ifaces == (Try.f14.params.toList ++ Rows.fnP224ScalarMultSpec.plain.varTypes Try.prog).any (Try.prog.ifacesRec ·)) = true := by kernel_rfl
theorem c16 : (Rows.fnP224ScalarMultRow.mapsOut == Try.prog.mapsAmong Try.f14.resultTypes.toList) = true := by kernel_rfl
theorem c17 : (Rows.fnP224ScalarMultRow.loops == (Try.f14.params.toList ++ Rows.fnP224ScalarMultSpec.plain.varTypes Try.prog).any (Try.prog.loopsFrom ·)) = true := by kernel_rfl
theorem c18 : (Rows.fnP224ScalarMultRow.wideKeys == (Try.f14.params.toList ++ Rows.fnP224ScalarMultSpec.plain.varTypes Try.prog ++ Try.f14.resultTypes.toList).any (Try.prog.wideKeysFrom ·)) = true := by kernel_rfl
theorem c19 : Rows.fnP224ScalarMultSpec.vars.all (Try.prog.varReadable ·) = true := by kernel_rfl
theorem c20 : Try.f14.resultTypes.all (fun t => Try.prog.readableRec t && decide (t < Try.prog.types.size)) = true := by kernel_rfl
theorem c21 : (Rows.fnP224ScalarMultRow.ifacesOut == Try.f14.resultTypes.toList.any (Try.prog.ifacesRec ·)) = true := by kernel_rfl
theorem c22 : (Rows.fnP224ScalarMultRow.loopsOut == Try.f14.resultTypes.toList.any (Try.prog.loopsFrom ·)) = true := by kernel_rfl
theorem c23 : (Rows.fnP224ScalarMultRow.plainKeys == Try.prog.plainKeys) = true := by rw [Base.plainKeys]; rfl
theorem c24 : Rows.fnP224ScalarMultRow.shortTexts.isNone = true := by kernel_rfl
theorem c25 : Try.prog.stopsHeard = true := Base.heard
theorem c26 : Try.prog.mayEnter = true := Base.mayEnter
theorem c27 : (Rows.fnP224ScalarMultRow.lifted == Try.prog.liftsFinal) = true := by rw [Base.liftsFinal]; rfl
theorem c28 : (Try.prog.make == some Rows.fnP224ScalarMultRow.make) = true := by rw [Base.make]; rfl
theorem c29 : (Rows.fnP224ScalarMultRow.kinds == (if Rows.fnP224ScalarMultRow.domain.isEmpty then [] else Try.f14.params.toList.map fun t => match Try.prog.underlying t with | some (.int k) => some k | _ => none)) = true := by kernel_rfl
theorem c30 : (Rows.fnP224ScalarMultRow.pinned == Rows.fnP224ScalarMultRow.pinnedBy) = true := by kernel_rfl
theorem c31 : (Rows.fnP224ScalarMultRow.veiled == (Try.f14.params.toList ++ Rows.fnP224ScalarMultSpec.plain.varTypes Try.prog ++ Try.f14.resultTypes.toList).any (Try.prog.veiledRec ·)) = true := by kernel_rfl
theorem c32 : Rows.fnP224ScalarMultRow.veiledFits Try.prog Try.f14.params.toList (Try.f14.params.toList ++ Rows.fnP224ScalarMultSpec.plain.varTypes Try.prog ++ Try.f14.resultTypes.toList) = true := by kernel_rfl
theorem closed : joinedFacts Try.prog 14 Try.f14 Rows.fnP224ScalarMultSpec Rows.fnP224ScalarMultRow = true := (Base.and_i (Base.and_i (Base.and_i (Base.and_i (Base.and_i (Base.and_i (Base.and_i (Base.and_i (Base.and_i (Base.and_i (Base.and_i (Base.and_i (Base.and_i (Base.and_i (Base.and_i (Base.and_i (Base.and_i (Base.and_i (Base.and_i (Base.and_i (Base.and_i (Base.and_i (Base.and_i (Base.and_i (Base.and_i (Base.and_i (Base.and_i (Base.and_i (Base.and_i (Base.and_i (Base.and_i c1 c2) c3) c4) c5) c6) c7) c8) c9) c10) c11) c12) c13) c14) c15) c16) c17) c18) c19) c20) c21) c22) c23) c24) c25) c26) c27) c28) c29) c30) c31) c32)

theorem lifted (os : Os) (started : os.Started) (H : Type) (enc : TypeId × Value → H) :
    ReturnsInHanded {} Try.checked os 14 .any (Rows.fnP224ScalarMultSpec.pre6 enc Try.prog Try.f14 Rows.fnP224ScalarMultRow.domain false) (Rows.fnP224ScalarMultSpec.post enc Try.prog Try.f14 false true false false) := by
  refine returnsInHanded_of_change_shaped (C := Try.checked) Base.own started (by kernel_rfl) Try.func14
    (ChangeSpec.witness6 (enc := enc) (C := Try.checked) false ⟨#[], #[.slice none 0 0, .agg (Array.replicate 28 (.int .u8 0))], []⟩ 8 (by kernel_rfl) (by kernel_rfl) (by kernel_rfl) (by kernel_rfl)) ?_
  intro W base args ds gs before hval0 hW hcnd _ hsh _
  have hpos : 0 < W.heap.size := Base.heap_pos hsh
  have hval : ∀ (j : Nat) t v, Try.f14.params[j]? = some t → args[j]? = some v → Value.okWide Try.prog W .any base t v := hval0
  have hW' := hW
  obtain ⟨p, q, hA0, hV, rfl, hfz, hnd⟩ := hW
  have hA : DataW.TrodAll enc Try.prog W 0 (fun _ => true) true Try.f14.params.toList args.toList ds p := hA0
  rw [Try.params14] at hA hval
  obtain ⟨v0, vs0, d0, ds0, p0, q0, hargs, rfl, rfl, h0, r0⟩ := trodAll_cons hA
  obtain ⟨v1, vs1, d1, ds1, p1, q1, rfl, rfl, rfl, h1, r1⟩ := trodAll_cons r0
  obtain ⟨rfl, rfl, rfl⟩ := trodAll_nil r1
  obtain rfl : args = #[v0, v1] := by cases args; simp_all
  obtain ⟨rfl, rfl⟩ := trodVars_none hV
  obtain ⟨a0, len0, cap0, rfl⟩ := okWide_slice Try.underlying27 (hval 0 27 v0 rfl rfl)
  have k0 := h0
  have lt0 : ∀ x ∈ p0, x.block < W.heap.size := by obtain ⟨m, hm⟩ := k0; exact DataW.trod_lt m _ _ _ hm
  obtain ⟨z0, w0⟩ : ∃ zs, Base.IsRow W a0 len0 cap0 zs := by
    obtain ⟨fuel, hf⟩ := h0
    rcases open_ints Try.underlying27 Try.underlying5 (by kernel_rfl) hf with ⟨hcs, _⟩ | ⟨x, l, c, zs, hcs, _, hl, hm, hz, _, hcell, hwz⟩
    · simp [Value.cells] at hcs
      obtain ⟨rfl, rfl, rfl⟩ := hcs
      exact ⟨[], .inl ⟨rfl, rfl, rfl, rfl⟩⟩
    · simp [Value.cells] at hcs
      obtain ⟨rfl, rfl, rfl⟩ := hcs
      have hb := Base.has_block Try.underlying27 (hval 0 27 _ rfl rfl)
      exact ⟨zs, .inr ⟨_, rfl, hl, hm, by simpa using hz, hcell, hwz, hb.1, hb.2⟩⟩
  obtain ⟨b0, o0, u0, e0, f0, sl0⟩ := Base.sl_of w0 hpos
  obtain ⟨ks1, rfl, hk1⟩ := Base.arr_of (hval 1 22 v1 rfl rfl)
  have k1 := h1
  have lt1 : ∀ x ∈ p1, x.block < W.heap.size := by obtain ⟨m, hm⟩ := k1; exact DataW.trod_lt m _ _ _ hm
  clear hA0 hval0
  refine (law14_all sl0 hk1).mono fun e W' ⟨he, bel⟩ => ?_
  subst he
  exact ⟨_, rfl, _, _, _, [], _, [], hW', trodAll_mk1 (shut_bool Try.underlying4 _), (trodAll_cons_mk (Below.trod Base.laidOut (by kernel_rfl) (of_decide_eq_true (by kernel_rfl)) k0 bel lt0) (trodAll_cons_mk (Below.trod Base.laidOut (by kernel_rfl) (of_decide_eq_true (by kernel_rfl)) k1 bel lt1) trodAll_mk0)), rfl, bel.frame _, fun h => by cases h⟩

theorem over : Rows.fnP224ScalarMultRow.holds Try.pinned (OpenSpec.ofChange Rows.fnP224ScalarMultSpec) :=
  OpenClaim.holds_of_wide 14 Try.f14 rfl rfl rfl rfl rfl rfl rfl ⟨rfl, rfl, rfl, rfl, rfl⟩ rfl rfl rfl rfl rfl (by kernel_rfl) Try.func14 closed
    (of_decide_eq_true (by kernel_rfl)) (by unfold Func.isWrapper; first | (rw [if_pos (by decide +kernel)]; kernel_rfl) | (rw [if_neg (by decide +kernel)]; exact ⟨rfl, rfl⟩))
    (fun os started H enc _ => lifted os started H enc)

/-- The statement. -/
theorem proved : Rows.FnP224ScalarMultSaid := over
#print axioms proved
end Go.Proofs.Ytccmmkgiamcgeaa.fnP224ScalarMult
