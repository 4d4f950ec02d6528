/- Proved: FnP224ScalarBase: whatever the input, the law returns true and it reads as before. No condition. -/
import Derived.Test.YtccmmkgiamcgeaaGL3
import Derived.Test.YtccmmkgiamcgeaaGRB
import Derived.Test.YtccmmkgiamcgeaaGRA
set_option linter.all false
namespace Go.Proofs.Ytccmmkgiamcgeaa.fnP224ScalarBase
open Go.ChangeShapes Go.WideShapes Go.ChangeAt Go.RowKit
open Go.ChangeMaps (open_string shut_string)
open P224
set_option linter.unusedVariables false
set_option maxRecDepth 100000
theorem c1:Rows.fnP224ScalarBaseRow.wf (OpenSpec.ofChange Rows.fnP224ScalarBaseSpec)=true:=by kernel_rfl
theorem c2:laidOutB Try.prog=true:=Base.laidOut
theorem c3:mapsRowed Try.prog=true:=Base.rowed
theorem c4:Try.f3.params.all (Try.prog.readableRec ·)=true:=by kernel_rfl
theorem c5:namedTie Try.prog Rows.fnP224ScalarBaseRow.named Rows.fnP224ScalarBaseSpec.vars=true:=by kernel_rfl
theorem c6:(Rows.fnP224ScalarBaseRow.stops == [])=true:=by kernel_rfl
theorem c7:(Try.prog.stops == [])=true:=by rw [Base.stops]; rfl
theorem c8:(Rows.fnP224ScalarBaseRow.knobs == [])=true:=by kernel_rfl
theorem c9:(Try.prog.stopKnobs == [])=true:=by rw [Base.knobs]; rfl
theorem c10:(Rows.fnP224ScalarBaseRow.inPlace == Try.prog.inPlace 3)=true:=by kernel_rfl
theorem c11:(Rows.fnP224ScalarBaseRow.unfollowed == Try.prog.unfollowed 3)=true:=by kernel_rfl
theorem c12:(Rows.fnP224ScalarBaseRow.recurses == Try.prog.recurses 3)=true:=by kernel_rfl
theorem c13:(Rows.fnP224ScalarBaseRow.named == Try.prog.varsNamed 3)=true:=by kernel_rfl
theorem c14:(Rows.fnP224ScalarBaseRow.maps == (Try.f3.params.toList ++ Rows.fnP224ScalarBaseSpec.plain.varTypes Try.prog).any (Try.prog.mapsRec ·))=true:=by kernel_rfl
theorem c15:(Rows.fnP224ScalarBaseRow.ifaces == (Try.f3.params.toList ++ Rows.fnP224ScalarBaseSpec.plain.varTypes Try.prog).any (Try.prog.ifacesRec ·))=true:=by kernel_rfl
theorem c16:(Rows.fnP224ScalarBaseRow.mapsOut == Try.prog.mapsAmong Try.f3.resultTypes.toList)=true:=by kernel_rfl
theorem c17:(Rows.fnP224ScalarBaseRow.loops == (Try.f3.params.toList ++ Rows.fnP224ScalarBaseSpec.plain.varTypes Try.prog).any (Try.prog.loopsFrom ·))=true:=by kernel_rfl
theorem c18:(Rows.fnP224ScalarBaseRow.wideKeys == (Try.f3.params.toList ++ Rows.fnP224ScalarBaseSpec.plain.varTypes Try.prog ++ Try.f3.resultTypes.toList).any (Try.prog.wideKeysFrom ·))=true:=by kernel_rfl
theorem c19:Rows.fnP224ScalarBaseSpec.vars.all (Try.prog.varReadable ·)=true:=by kernel_rfl
theorem c20:Try.f3.resultTypes.all (fun t=>Try.prog.readableRec t && decide (t<Try.prog.types.size))=true:=by kernel_rfl
theorem c21:(Rows.fnP224ScalarBaseRow.ifacesOut == Try.f3.resultTypes.toList.any (Try.prog.ifacesRec ·))=true:=by kernel_rfl
theorem c22:(Rows.fnP224ScalarBaseRow.loopsOut == Try.f3.resultTypes.toList.any (Try.prog.loopsFrom ·))=true:=by kernel_rfl
theorem c23:(Rows.fnP224ScalarBaseRow.plainKeys == Try.prog.plainKeys)=true:=by rw [Base.plainKeys]; rfl
theorem c24:Rows.fnP224ScalarBaseRow.shortTexts.isNone=true:=by kernel_rfl
theorem c25:Try.prog.stopsHeard=true:=Base.heard
theorem c26:Try.prog.mayEnter=true:=Base.mayEnter
theorem c27:(Rows.fnP224ScalarBaseRow.lifted == Try.prog.liftsFinal)=true:=by rw [Base.liftsFinal]; rfl
theorem c28:(Try.prog.make == some Rows.fnP224ScalarBaseRow.make)=true:=by rw [Base.make]; rfl
theorem c29:(Rows.fnP224ScalarBaseRow.kinds == (if Rows.fnP224ScalarBaseRow.domain.isEmpty then [] else Try.f3.params.toList.map fun t=>match Try.prog.underlying t with | some (.int k)=>some k | _=>none))=true:=by kernel_rfl
theorem c30:(Rows.fnP224ScalarBaseRow.pinned == Rows.fnP224ScalarBaseRow.pinnedBy)=true:=by kernel_rfl
theorem c31:(Rows.fnP224ScalarBaseRow.veiled == (Try.f3.params.toList ++ Rows.fnP224ScalarBaseSpec.plain.varTypes Try.prog ++ Try.f3.resultTypes.toList).any (Try.prog.veiledRec ·))=true:=by kernel_rfl
theorem c32:Rows.fnP224ScalarBaseRow.veiledFits Try.prog Try.f3.params.toList (Try.f3.params.toList ++ Rows.fnP224ScalarBaseSpec.plain.varTypes Try.prog ++ Try.f3.resultTypes.toList)=true:=by kernel_rfl
theorem closed:joinedFacts Try.prog 3 Try.f3 Rows.fnP224ScalarBaseSpec Rows.fnP224ScalarBaseRow=true:=(Base.and_i (Base.and_i (Base.and_i (Base.and_i (Base.and_i (Base.and_i (Base.and_i (Base.and_i (Base.and_i (Base.and_i (Base.and_i (Base.and_i (Base.and_i (Base.and_i (Base.and_i (Base.and_i (Base.and_i (Base.and_i (Base.and_i (Base.and_i (Base.and_i (Base.and_i (Base.and_i (Base.and_i (Base.and_i (Base.and_i (Base.and_i (Base.and_i (Base.and_i (Base.and_i (Base.and_i c1 c2) c3) c4) c5) c6) c7) c8) c9) c10) c11) c12) c13) c14) c15) c16) c17) c18) c19) c20) c21) c22) c23) c24) c25) c26) c27) c28) c29) c30) c31) c32)
theorem lifted (os:Os) (started:os.Started) (H:Type) (enc:TypeId × Value→H) :
  ReturnsInHanded {} Try.checked os 3 .any (Rows.fnP224ScalarBaseSpec.pre6 enc Try.prog Try.f3 Rows.fnP224ScalarBaseRow.domain false) (Rows.fnP224ScalarBaseSpec.post enc Try.prog Try.f3 false true false false):=by
 refine returnsInHanded_of_change_shaped (C:=Try.checked) Base.own started (by kernel_rfl) Try.func3
  (ChangeSpec.witness6 (enc:=enc) (C:=Try.checked) false ⟨#[],#[.agg (Array.replicate 28 (.int .u8 0))],[]⟩ 8 (by kernel_rfl) (by kernel_rfl) (by kernel_rfl) (by kernel_rfl)) ?_
 intro W base args ds gs before hval0 hW hcnd _ hsh _
 have hpos:0<W.heap.size:=Base.heap_pos hsh
 have hval:∀ (j:Nat) t v,Try.f3.params[j]?=some t→args[j]?=some v→Value.okWide Try.prog W .any base t v:=hval0
 have hW':=hW
 obtain ⟨p,q,hA0,hV,rfl,hfz,hnd⟩:=hW
 have hA:DataW.TrodAll enc Try.prog W 0 (fun _=>true) true Try.f3.params.toList args.toList ds p:=hA0
 rw [Try.params3] at hA hval
 obtain ⟨v0,vs0,d0,ds0,p0,q0,hargs,rfl,rfl,h0,r0⟩:=trodAll_cons hA
 obtain ⟨rfl,rfl,rfl⟩:=trodAll_nil r0
 obtain rfl:args=#[v0]:=by cases args; simp_all
 obtain ⟨rfl,rfl⟩:=trodVars_none hV
 obtain ⟨ks0,rfl,hk0⟩:=Base.arr_of (hval 0 22 v0 rfl rfl)
 have k0:=h0
 have lt0:∀ x ∈ p0,x.block<W.heap.size:=by obtain ⟨m,hm⟩:=k0; exact DataW.trod_lt m _ _ _ hm
 clear hA0 hval0
 refine (law3_all hk0).mono fun e W' ⟨he,bel⟩=>?_
 subst he
 exact ⟨_,rfl,_,_,_,[],_,[],hW',trodAll_mk1 (shut_bool Try.underlying4 _),(trodAll_cons_mk (Below.trod Base.laidOut (by kernel_rfl) (of_decide_eq_true (by kernel_rfl)) k0 bel lt0) trodAll_mk0),rfl,bel.frame _,fun h=>by cases h⟩
theorem over:Rows.fnP224ScalarBaseRow.holds Try.pinned (OpenSpec.ofChange Rows.fnP224ScalarBaseSpec) :=
 OpenClaim.holds_of_wide 3 Try.f3 rfl rfl rfl rfl rfl rfl rfl ⟨rfl,rfl,rfl,rfl,rfl⟩ rfl rfl rfl rfl rfl (by kernel_rfl) Try.func3 closed
  (of_decide_eq_true (by kernel_rfl)) (by unfold Func.isWrapper; first | (rw [if_pos (by decide +kernel)]; kernel_rfl) | (rw [if_neg (by decide +kernel)]; exact ⟨rfl,rfl⟩))
  (fun os started H enc _=>lifted os started H enc)
theorem proved:Rows.FnP224ScalarBaseSaid:=over
#print axioms proved
end Go.Proofs.Ytccmmkgiamcgeaa.fnP224ScalarBase
