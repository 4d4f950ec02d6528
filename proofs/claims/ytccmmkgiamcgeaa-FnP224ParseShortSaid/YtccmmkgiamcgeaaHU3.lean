/- The candidate of a square root: the run up to the loop. -/
import Derived.Test.YtccmmkgiamcgeaaHU1
set_option linter.all false
namespace P224
open Go Go.RowKit Go.Proofs
set_option maxRecDepth 100000
set_option linter.unusedVariables false
theorem sqStart:peekO tabU (fixO 216 2 [(2,true)]) 3000 l117 stS 8 ((tmS (95:Nat)).map fun e=>e.1) (memS.map fun e=>ρA e.1)=some (⟨.normal,245,exS,(tmS (95:Nat)).map fun e=>some (e.2.rn ρA νA),memS.map fun e=>some (e.2.map (A0.rn ρA νA))⟩,outsL [239,235,136,109,103,102,101,100]):=by kernel_rfl
end P224
