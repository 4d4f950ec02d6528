/- The candidate of a square root: runs of its rounds. PRINTED BY A PROGRAM OF MY OWN. -/
import Derived.Test.YtccmmkgiamcgeaaHU1
set_option linter.all false
namespace P224
open Go Go.RowKit Go.Proofs
set_option maxRecDepth 100000
set_option linter.unusedVariables false
theorem sq75:SqRun 75:=by unfold SqRun; kernel_rfl
theorem sq76:SqRun 76:=by unfold SqRun; kernel_rfl
theorem sq77:SqRun 77:=by unfold SqRun; kernel_rfl
theorem sq78:SqRun 78:=by unfold SqRun; kernel_rfl
theorem sq79:SqRun 79:=by unfold SqRun; kernel_rfl
theorem sq80:SqRun 80:=by unfold SqRun; kernel_rfl
theorem sq81:SqRun 81:=by unfold SqRun; kernel_rfl
theorem sq82:SqRun 82:=by unfold SqRun; kernel_rfl
theorem sq83:SqRun 83:=by unfold SqRun; kernel_rfl
theorem sq84:SqRun 84:=by unfold SqRun; kernel_rfl
theorem sq85:SqRun 85:=by unfold SqRun; kernel_rfl
theorem sq86:SqRun 86:=by unfold SqRun; kernel_rfl
theorem sq87:SqRun 87:=by unfold SqRun; kernel_rfl
theorem sq88:SqRun 88:=by unfold SqRun; kernel_rfl
theorem sq89:SqRun 89:=by unfold SqRun; kernel_rfl
theorem sq90:SqRun 90:=by unfold SqRun; kernel_rfl
theorem sq91:SqRun 91:=by unfold SqRun; kernel_rfl
theorem sq92:SqRun 92:=by unfold SqRun; kernel_rfl
theorem sq93:SqRun 93:=by unfold SqRun; kernel_rfl
theorem sq94:SqRun 94:=by unfold SqRun; kernel_rfl
end P224
