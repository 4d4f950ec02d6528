/- The candidate of a square root: runs of its rounds. PRINTED BY A PROGRAM OF MY OWN. -/
import Derived.Test.YtccmmkgiamcgeaaHU1
set_option linter.all false
namespace P224
open Go Go.RowKit Go.Proofs
set_option maxRecDepth 100000
set_option linter.unusedVariables false
theorem sq45:SqRun 45:=by unfold SqRun; kernel_rfl
theorem sq46:SqRun 46:=by unfold SqRun; kernel_rfl
theorem sq47:SqRun 47:=by unfold SqRun; kernel_rfl
theorem sq48:SqRun 48:=by unfold SqRun; kernel_rfl
theorem sq49:SqRun 49:=by unfold SqRun; kernel_rfl
theorem sq50:SqRun 50:=by unfold SqRun; kernel_rfl
theorem sq51:SqRun 51:=by unfold SqRun; kernel_rfl
theorem sq52:SqRun 52:=by unfold SqRun; kernel_rfl
theorem sq53:SqRun 53:=by unfold SqRun; kernel_rfl
theorem sq54:SqRun 54:=by unfold SqRun; kernel_rfl
theorem sq55:SqRun 55:=by unfold SqRun; kernel_rfl
theorem sq56:SqRun 56:=by unfold SqRun; kernel_rfl
theorem sq57:SqRun 57:=by unfold SqRun; kernel_rfl
theorem sq58:SqRun 58:=by unfold SqRun; kernel_rfl
theorem sq59:SqRun 59:=by unfold SqRun; kernel_rfl
theorem sq60:SqRun 60:=by unfold SqRun; kernel_rfl
theorem sq61:SqRun 61:=by unfold SqRun; kernel_rfl
theorem sq62:SqRun 62:=by unfold SqRun; kernel_rfl
theorem sq63:SqRun 63:=by unfold SqRun; kernel_rfl
theorem sq64:SqRun 64:=by unfold SqRun; kernel_rfl
theorem sq65:SqRun 65:=by unfold SqRun; kernel_rfl
theorem sq66:SqRun 66:=by unfold SqRun; kernel_rfl
theorem sq67:SqRun 67:=by unfold SqRun; kernel_rfl
theorem sq68:SqRun 68:=by unfold SqRun; kernel_rfl
theorem sq69:SqRun 69:=by unfold SqRun; kernel_rfl
theorem sq70:SqRun 70:=by unfold SqRun; kernel_rfl
theorem sq71:SqRun 71:=by unfold SqRun; kernel_rfl
theorem sq72:SqRun 72:=by unfold SqRun; kernel_rfl
theorem sq73:SqRun 73:=by unfold SqRun; kernel_rfl
theorem sq74:SqRun 74:=by unfold SqRun; kernel_rfl
end P224
