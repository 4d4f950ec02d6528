/- What the rows' closed cells ask of the program: facts for all rows of this seat. -/
import Derived.Test.YtccmmkgiamcgeaaRows
import Derived.WalkKit
import Derived.ProofKit
import Derived.OpenShut
import Derived.ShutString
import Derived.ChangeOld
import Derived.Below
import Derived.HandedShaped
import Derived.Test.YtccmmkgiamcgeaaGT9
set_option linter.all false
namespace Go.Proofs.Ytccmmkgiamcgeaa.Base
open Go.ChangeShapes Go.WideShapes Go.ChangeAt Go.RowKit
set_option maxRecDepth 100000
set_option linter.unusedVariables false
def ioN:List Nat:=[104,97,114,110,101,115,115,32,101,101,97,97,50,54,57,56,51,49,56,54,51,102,54,49,100,50,57,97,54,48,49,101,48,49,49,50,48,99,98,102,49,50,97,51,56,101,101,49,57,101,53,101,98,50,53,49,101,98,52,102,102,49,98,50,56,55,99,51,97,56,50,53,32,99,117,116,32,97,116,32,108,111,111,112,46,101,120,97,109,112,108,101,47,112,117,98,45,103,48,51,50,52,48,47,108,97,119,115,46,70,110,80,50,50,52,83,99,97,108,97,114,66,97,115,101,32,108,111,111,112,46,101,120,97,109,112,108,101,47,112,117,98,45,103,48,51,50,52,48,47,108,97,119,115,46,70,110,80,50,50,52,80,97,114,115,101,83,104,111,114,116,32,108,111,111,112,46,101,120,97,109,112,108,101,47,112,117,98,45,103,48,51,50,52,48,47,108,97,119,115,46,70,110,80,50,50,52,68,111,117,98,108,101,32,108,111,111,112,46,101,120,97,109,112,108,101,47,112,117,98,45,103,48,51,50,52,48,47,108,97,119,115,46,70,110,80,50,50,52,83,101,116,32,108,111,111,112,46,101,120,97,109,112,108,101,47,112,117,98,45,103,48,51,50,52,48,47,108,97,119,115,46,70,110,80,50,50,52,65,100,100,32,108,111,111,112,46,101,120,97,109,112,108,101,47,112,117,98,45,103,48,51,50,52,48,47,108,97,119,115,46,70,110,80,50,50,52,79,112,112,111,115,105,116,101,32,108,111,111,112,46,101,120,97,109,112,108,101,47,112,117,98,45,103,48,51,50,52,48,47,108,97,119,115,46,70,110,80,50,50,52,65,100,100,73,110,116,111,32,108,111,111,112,46,101,120,97,109,112,108,101,47,112,117,98,45,103,48,51,50,52,48,47,108,97,119,115,46,70,110,80,50,50,52,68,111,117,98,108,101,73,115,83,117,109,32,108,111,111,112,46,101,120,97,109,112,108,101,47,112,117,98,45,103,48,51,50,52,48,47,108,97,119,115,46,70,110,80,50,50,52,79,114,100,101,114,32,108,111,111,112,46,101,120,97,109,112,108,101,47,112,117,98,45,103,48,51,50,52,48,47,108,97,119,115,46,70,110,80,50,50,52,83,99,97,108,97,114,84,117,114,110,115,32,108,111,111,112,46,101,120,97,109,112,108,101,47,112,117,98,45,103,48,51,50,52,48,47,108,97,119,115,46,70,110,80,50,50,52,70,101,119,32,108,111,111,112,46,101,120,97,109,112,108,101,47,112,117,98,45,103,48,51,50,52,48,47,108,97,119,115,46,70,110,80,50,50,52,83,99,97,108,97,114,77,117,108,116,32,108,111,111,112,46,101,120,97,109,112,108,101,47,112,117,98,45,103,48,51,50,52,48,47,108,97,119,115,46,70,110,80,50,50,52,83,99,97,108,97,114,78,101,120,116,32,108,111,111,112,46,101,120,97,109,112,108,101,47,112,117,98,45,103,48,51,50,52,48,47,108,97,119,115,46,70,110,80,50,50,52,83,99,97,108,97,114,83,112,114,101,97,100,115,32,108,111,111,112,46,101,120,97,109,112,108,101,47,112,117,98,45,103,48,51,50,52,48,47,108,97,119,115,46,70,110,80,50,50,52,83,99,97,108,97,114,83,117,109,32,108,111,111,112,46,101,120,97,109,112,108,101,47,112,117,98,45,103,48,51,50,52,48,47,108,97,119,115,46,70,110,80,50,50,52,71,101,110,101,114,97,116,111,114,32,108,111,111,112,46,101,120,97,109,112,108,101,47,112,117,98,45,103,48,51,50,52,48,47,108,97,119,115,46,70,110,80,50,50,52,66,97,115,101,73,115,77,117,108,116]
theorem io_eq:Try.prog.initOrder=String.ofList (ioN.map Char.ofNat):=by kernel_rfl
theorem io_list:Try.prog.initOrder.toList=ioN.map Char.ofNat:=by rw [io_eq,String.toList_ofList]
theorem head : (behindMainWord (wordsSigns (ioN.map Char.ofNat))).head? = some "cut".toList := by kernel_rfl
theorem cut : ∃ r, behindMainWord (wordsSigns Try.prog.initOrder.toList) = "cut".toList :: r := by
 have h:=head
 rw [← io_list] at h
 cases hb:behindMainWord (wordsSigns Try.prog.initOrder.toList) with
 | nil=>rw [hb] at h; cases h
 | cons c r =>
  rw [hb] at h
  have : c = "cut".toList := by simpa using h
  exact ⟨r,by rw [this]⟩
theorem strip (r : List (List Char)) : stripLifts liftWords ("cut".toList :: r) = ([], "cut".toList :: r) := by rfl
theorem lays:Try.prog.laysLater=false:=by kernel_rfl
theorem bears:Try.prog.bearsReflect=false:=by kernel_rfl
theorem e1 : ("cut".toList == "gc".toList) = false := by decide +kernel
theorem e2 : ("cut".toList == "spec".toList) = false := by decide +kernel
theorem e3 : ("cut".toList == "carried".toList) = false := by decide +kernel
theorem make_of (P : Program) {r : List (List Char)} (h : behindMainWord (wordsSigns P.initOrder.toList) = "cut".toList :: r) : P.make = some .cut := by
 unfold Program.make
 rw [h]
 simp only [e1,e2,e3,beq_self_eq_true,Bool.or_self,Bool.true_or,if_true,Bool.false_eq_true,if_false]
theorem lifts_of (P : Program) {r : List (List Char)} (h : behindMainWord (wordsSigns P.initOrder.toList) = "cut".toList :: r) : P.liftsFinal = false := by
 unfold Program.liftsFinal Program.headLifts
 rw [h,strip]
 rfl
theorem enter_of (P : Program) {r : List (List Char)} (h : behindMainWord (wordsSigns P.initOrder.toList) = "cut".toList :: r) (h1 : P.laysLater = false) (h2 : P.bearsReflect = false) (h3 : P.doorFits [] = true) : P.mayEnter = true := by
 unfold Program.mayEnter
 rw [h]
 simp only [strip,h1,h2,h3,List.head?_cons,beq_self_eq_true,Bool.not_false,Bool.or_true,Bool.and_true,List.contains_nil]
theorem make:Try.prog.make=some .cut:=by obtain ⟨r,h⟩:=cut; exact make_of _ h
theorem liftsFinal:Try.prog.liftsFinal=false:=by obtain ⟨r,h⟩:=cut; exact lifts_of _ h
theorem doorRows:Try.prog.doorRows=[]:=by kernel_rfl
theorem door:Try.prog.doorFits []=true:=by
 unfold Program.doorFits
 rw [doorRows]
 rfl
theorem mayEnter:Try.prog.mayEnter=true:=by obtain ⟨r,h⟩:=cut; exact enter_of _ h lays bears door
theorem own:ownKnob Try.prog.godebug=none:=by kernel_rfl
theorem laidOut:laidOutB Try.prog=true:=by kernel_rfl
theorem rowed:mapsRowed Try.prog=true:=by kernel_rfl
theorem plainKeys:Try.prog.plainKeys=true:=by kernel_rfl
theorem heard:Try.prog.stopsHeard=true:=by kernel_rfl
theorem stops:Try.prog.stops=[]:=by kernel_rfl
theorem knobs:Try.prog.stopKnobs=[]:=by kernel_rfl
theorem and_i {a b:Bool} (ha:a=true) (hb:b=true):(a && b)=true:=by rw [ha,hb]; rfl
end Go.Proofs.Ytccmmkgiamcgeaa.Base

namespace Go.Proofs.Ytccmmkgiamcgeaa.Base
open Go.ChangeShapes Go.WideShapes Go.ChangeAt Go.RowKit
theorem gl:Try.prog.globals.size=0:=by kernel_rfl
theorem row0:decide (0<(begin Try.prog (fun _ _=>0) default).world.heap.size)=true:=by kernel_rfl
theorem heap_pos {W:World} (h:W.ShapedOpen Try.prog):0<W.heap.size:=by
 obtain ⟨o,_,h1,_⟩:=h.2 0 (Nat.le_of_eq gl) (of_decide_eq_true row0)
 exact Nat.lt_of_le_of_lt (Nat.zero_le _) (Array.getElem?_eq_some_iff.1 h1).1
end Go.Proofs.Ytccmmkgiamcgeaa.Base
/- From a row's slice of bytes to the executor's. -/
namespace Go.Proofs.Ytccmmkgiamcgeaa.Base
open P224
open Go.ChangeShapes Go.WideShapes Go.ChangeAt Go.RowKit
set_option linter.unusedVariables false
end Go.Proofs.Ytccmmkgiamcgeaa.Base
