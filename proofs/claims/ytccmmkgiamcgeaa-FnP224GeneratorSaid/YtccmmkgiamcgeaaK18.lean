/- Proved: FnP224Generator: whatever the input, the law returns true and it reads as before. No condition. -/
import Derived.Test.YtccmmkgiamcgeaaGL18
import Derived.Test.YtccmmkgiamcgeaaGRB
set_option linter.all false
namespace Go.Proofs.Ytccmmkgiamcgeaa.fnP224Generator
open Go.ChangeShapes Go.WideShapes Go.ChangeAt Go.RowKit
open Go.ChangeMaps (open_string shut_string)
open P224
set_option linter.unusedVariables false
set_option maxRecDepth 100000

theorem c1 : Rows.fnP224GeneratorRow.wf (OpenSpec.ofChange Rows.fnP224GeneratorSpec) = true := by kernel_rfl
theorem c2 : laidOutB Try.prog = true := Base.laidOut
theorem c3 : mapsRowed Try.prog = true := Base.rowed
theorem c4 : Try.f18.params.all (Try.prog.readableRec ·) = true := by kernel_rfl
theorem c5 : namedTie Try.prog Rows.fnP224GeneratorRow.named Rows.fnP224GeneratorSpec.vars = true := by kernel_rfl
theorem c6 : (Rows.fnP224GeneratorRow.stops == []) = true := by kernel_rfl
theorem c7 : (Try.prog.stops == []) = true := by rw [Base.stops]; rfl
theorem c8 : (Rows.fnP224GeneratorRow.knobs == []) = true := by kernel_rfl
theorem c9 : (Try.prog.stopKnobs == []) = true := by rw [Base.knobs]; rfl
theorem c10 : (Rows.fnP224GeneratorRow.inPlace == Try.prog.inPlace 18) = true := by kernel_rfl
theorem c11 : (Rows.fnP224GeneratorRow.unfollowed == Try.prog.unfollowed 18) = true := by kernel_rfl
theorem c12 : (Rows.fnP224GeneratorRow.recurses == Try.prog.recurses 18) = true := by kernel_rfl
theorem c13 : (Rows.fnP224GeneratorRow.named == Try.prog.varsNamed 18) = true := by kernel_rfl
theorem c14 : (Rows.fnP224GeneratorRow.maps == (Try.f18.params.toList ++ Rows.fnP224GeneratorSpec.plain.varTypes Try.prog).any (Try.prog.mapsRec ·)) = true := by kernel_rfl
theorem c15 : (Rows.fnP224GeneratorRow.ifaces == (Try.f18.params.toList ++ Rows.fnP224GeneratorSpec.plain.varTypes Try.prog).any (Try.prog.ifacesRec ·)) = true := by kernel_rfl
theorem c16 : (Rows.fnP224GeneratorRow.mapsOut == Try.prog.mapsAmong Try.f18.resultTypes.toList) = true := by kernel_rfl
theorem c17 : (Rows.fnP224GeneratorRow.loops == (Try.f18.params.toList ++ Rows.fnP224GeneratorSpec.plain.varTypes Try.prog).any (Try.prog.loopsFrom ·)) = true := by kernel_rfl
theorem c18 : (Rows.fnP224GeneratorRow.wideKeys == (Try.f18.params.toList ++ Rows.fnP224GeneratorSpec.plain.varTypes Try.prog ++ Try.f18.resultTypes.toList).any (Try.prog.wideKeysFrom ·)) = true := by kernel_rfl
theorem c19 : Rows.fnP224GeneratorSpec.vars.all (Try.prog.varReadable ·) = true := by kernel_rfl
theorem c20 : Try.f18.resultTypes.all (fun t => Try.prog.readableRec t && decide (t < Try.prog.types.size)) = true := by kernel_rfl
theorem c21 : (Rows.fnP224GeneratorRow.ifacesOut == Try.f18.resultTypes.toList.any (Try.prog.ifacesRec ·)) = true := by kernel_rfl
theorem c22 : (Rows.fnP224GeneratorRow.loopsOut == Try.f18.resultTypes.toList.any (Try.prog.loopsFrom ·)) = true := by kernel_rfl
theorem c23 : (Rows.fnP224GeneratorRow.plainKeys == Try.prog.plainKeys) = true := by rw [Base.plainKeys]; rfl
theorem c24 : Rows.fnP224GeneratorRow.shortTexts.isNone = true := by kernel_rfl
theorem c25 : Try.prog.stopsHeard = true := Base.heard
theorem c26 : Try.prog.mayEnter = true := Base.mayEnter
theorem c27 : (Rows.fnP224GeneratorRow.lifted == Try.prog.liftsFinal) = true := by rw [Base.liftsFinal]; rfl
theorem c28 : (Try.prog.make == some Rows.fnP224GeneratorRow.make) = true := by rw [Base.make]; rfl
theorem c29 : (Rows.fnP224GeneratorRow.kinds == (if Rows.fnP224GeneratorRow.domain.isEmpty then [] else Try.f18.params.toList.map fun t => match Try.prog.underlying t with | some (.int k) => some k | _ => none)) = true := by kernel_rfl
theorem c30 : (Rows.fnP224GeneratorRow.pinned == Rows.fnP224GeneratorRow.pinnedBy) = true := by kernel_rfl
theorem c31 : (Rows.fnP224GeneratorRow.veiled == (Try.f18.params.toList ++ Rows.fnP224GeneratorSpec.plain.varTypes Try.prog ++ Try.f18.resultTypes.toList).any (Try.prog.veiledRec ·)) = true := by kernel_rfl
theorem c32 : Rows.fnP224GeneratorRow.veiledFits Try.prog Try.f18.params.toList (Try.f18.params.toList ++ Rows.fnP224GeneratorSpec.plain.varTypes Try.prog ++ Try.f18.resultTypes.toList) = true := by kernel_rfl
theorem closed : joinedFacts Try.prog 18 Try.f18 Rows.fnP224GeneratorSpec Rows.fnP224GeneratorRow = true := (Base.and_i (Base.and_i (Base.and_i (Base.and_i (Base.and_i (Base.and_i (Base.and_i (Base.and_i (Base.and_i (Base.and_i (Base.and_i (Base.and_i (Base.and_i (Base.and_i (Base.and_i (Base.and_i (Base.and_i (Base.and_i (Base.and_i (Base.and_i (Base.and_i (Base.and_i (Base.and_i (Base.and_i (Base.and_i (Base.and_i (Base.and_i (Base.and_i (Base.and_i (Base.and_i (Base.and_i c1 c2) c3) c4) c5) c6) c7) c8) c9) c10) c11) c12) c13) c14) c15) c16) c17) c18) c19) c20) c21) c22) c23) c24) c25) c26) c27) c28) c29) c30) c31) c32)

theorem byteNat {z : Int} (h : (Lit.int .u8 z).wf = true) : ∃ m : Nat, z = (m : Int) ∧ m < 256 := by
  have hb := bounds_u8 h
  exact ⟨z.toNat, by omega, by omega⟩
theorem lifted (os : Os) (started : os.Started) (H : Type) (enc : TypeId × Value → H) :
    ReturnsInHanded {} Try.checked os 18 .any (Rows.fnP224GeneratorSpec.pre6 enc Try.prog Try.f18 Rows.fnP224GeneratorRow.domain false) (Rows.fnP224GeneratorSpec.post enc Try.prog Try.f18 false true false false) := by
  refine returnsInHanded_of_change_shaped (C := Try.checked) Base.own started (by kernel_rfl) Try.func18
    (ChangeSpec.witness6 (enc := enc) (C := Try.checked) false ⟨#[], #[.int .u8 0], []⟩ 8 (by kernel_rfl) (by kernel_rfl) (by kernel_rfl) (by kernel_rfl)) ?_
  intro W base args ds gs before hval0 hW hcnd _ hsh _
  have hpos : 0 < W.heap.size := Base.heap_pos hsh
  have hval : ∀ (j : Nat) t v, Try.f18.params[j]? = some t → args[j]? = some v → Value.okWide Try.prog W .any base t v := hval0
  have hW' := hW
  obtain ⟨p, q, hA0, hV, rfl, hfz, hnd⟩ := hW
  have hA : DataW.TrodAll enc Try.prog W 0 (fun _ => true) true Try.f18.params.toList args.toList ds p := hA0
  rw [Try.params18] at hA hval
  obtain ⟨v0, vs0, d0, ds0, p0, q0, hargs, rfl, rfl, h0, r0⟩ := trodAll_cons hA
  obtain ⟨rfl, rfl, rfl⟩ := trodAll_nil r0
  obtain rfl : args = #[v0] := by cases args; simp_all
  obtain ⟨rfl, rfl⟩ := trodVars_none hV
  obtain ⟨a0, rfl, rfl, rfl, w0⟩ := open_int Try.underlying5 (hval 0 5 v0 rfl rfl) h0
  obtain ⟨m0, rfl, ml0⟩ := byteNat w0
  clear hA0 hval0
  refine (law18_all ml0).mono fun e W' ⟨he, bel⟩ => ?_
  subst he
  exact ⟨_, rfl, _, _, _, [], _, [], hW', trodAll_mk1 (shut_bool Try.underlying4 _), (trodAll_cons_mk (shut_int Try.underlying5 w0) trodAll_mk0), rfl, bel.frame _, fun h => by cases h⟩

theorem over : Rows.fnP224GeneratorRow.holds Try.pinned (OpenSpec.ofChange Rows.fnP224GeneratorSpec) :=
  OpenClaim.holds_of_wide 18 Try.f18 rfl rfl rfl rfl rfl rfl rfl ⟨rfl, rfl, rfl, rfl, rfl⟩ rfl rfl rfl rfl rfl (by kernel_rfl) Try.func18 closed
    (of_decide_eq_true (by kernel_rfl)) (by unfold Func.isWrapper; first | (rw [if_pos (by decide +kernel)]; kernel_rfl) | (rw [if_neg (by decide +kernel)]; exact ⟨rfl, rfl⟩))
    (fun os started H enc _ => lifted os started H enc)

/-- The statement. -/
theorem proved : Rows.FnP224GeneratorSaid := over
#print axioms proved
end Go.Proofs.Ytccmmkgiamcgeaa.fnP224Generator
