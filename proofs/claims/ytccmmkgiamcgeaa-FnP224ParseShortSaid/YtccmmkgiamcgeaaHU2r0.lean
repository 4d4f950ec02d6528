/- The candidate of a square root: runs of its rounds. PRINTED BY A PROGRAM OF MY OWN. -/
import Derived.Test.YtccmmkgiamcgeaaHU1
set_option linter.all false
namespace P224
open Go Go.RowKit Go.Proofs
set_option maxRecDepth 100000
set_option linter.unusedVariables false
theorem sq0:SqRun 0:=by unfold SqRun; kernel_rfl
theorem sq1:SqRun 1:=by unfold SqRun; kernel_rfl
theorem sq2:SqRun 2:=by unfold SqRun; kernel_rfl
theorem sq3:SqRun 3:=by unfold SqRun; kernel_rfl
theorem sq4:SqRun 4:=by unfold SqRun; kernel_rfl
theorem sq5:SqRun 5:=by unfold SqRun; kernel_rfl
theorem sq6:SqRun 6:=by unfold SqRun; kernel_rfl
theorem sq7:SqRun 7:=by unfold SqRun; kernel_rfl
theorem sq8:SqRun 8:=by unfold SqRun; kernel_rfl
theorem sq9:SqRun 9:=by unfold SqRun; kernel_rfl
theorem sq10:SqRun 10:=by unfold SqRun; kernel_rfl
theorem sq11:SqRun 11:=by unfold SqRun; kernel_rfl
theorem sq12:SqRun 12:=by unfold SqRun; kernel_rfl
theorem sq13:SqRun 13:=by unfold SqRun; kernel_rfl
theorem sq14:SqRun 14:=by unfold SqRun; kernel_rfl
theorem sq15:SqRun 15:=by unfold SqRun; kernel_rfl
theorem sq16:SqRun 16:=by unfold SqRun; kernel_rfl
theorem sq17:SqRun 17:=by unfold SqRun; kernel_rfl
theorem sq18:SqRun 18:=by unfold SqRun; kernel_rfl
theorem sq19:SqRun 19:=by unfold SqRun; kernel_rfl
theorem sq20:SqRun 20:=by unfold SqRun; kernel_rfl
theorem sq21:SqRun 21:=by unfold SqRun; kernel_rfl
theorem sq22:SqRun 22:=by unfold SqRun; kernel_rfl
theorem sq23:SqRun 23:=by unfold SqRun; kernel_rfl
theorem sq24:SqRun 24:=by unfold SqRun; kernel_rfl
theorem sq25:SqRun 25:=by unfold SqRun; kernel_rfl
theorem sq26:SqRun 26:=by unfold SqRun; kernel_rfl
theorem sq27:SqRun 27:=by unfold SqRun; kernel_rfl
theorem sq28:SqRun 28:=by unfold SqRun; kernel_rfl
theorem sq29:SqRun 29:=by unfold SqRun; kernel_rfl
theorem sq30:SqRun 30:=by unfold SqRun; kernel_rfl
theorem sq31:SqRun 31:=by unfold SqRun; kernel_rfl
theorem sq32:SqRun 32:=by unfold SqRun; kernel_rfl
theorem sq33:SqRun 33:=by unfold SqRun; kernel_rfl
theorem sq34:SqRun 34:=by unfold SqRun; kernel_rfl
theorem sq35:SqRun 35:=by unfold SqRun; kernel_rfl
theorem sq36:SqRun 36:=by unfold SqRun; kernel_rfl
theorem sq37:SqRun 37:=by unfold SqRun; kernel_rfl
theorem sq38:SqRun 38:=by unfold SqRun; kernel_rfl
theorem sq39:SqRun 39:=by unfold SqRun; kernel_rfl
theorem sq40:SqRun 40:=by unfold SqRun; kernel_rfl
theorem sq41:SqRun 41:=by unfold SqRun; kernel_rfl
theorem sq42:SqRun 42:=by unfold SqRun; kernel_rfl
theorem sq43:SqRun 43:=by unfold SqRun; kernel_rfl
theorem sq44:SqRun 44:=by unfold SqRun; kernel_rfl
end P224
