/- The generator's table: the runs of its rows, 28 to 41. PRINTED BY A PROGRAM OF MY OWN (gen/mkrows79.py). -/
import Derived.Test.YtccmmkgiamcgeaaGW79
set_option linter.all false
namespace P224
open Go Go.RowKit Go.Proofs
set_option maxRecDepth 100000
set_option linter.unusedVariables false
theorem rowRun28:RowRun 28:=by unfold RowRun; kernel_rfl
theorem rowRun29:RowRun 29:=by unfold RowRun; kernel_rfl
theorem rowRun30:RowRun 30:=by unfold RowRun; kernel_rfl
theorem rowRun31:RowRun 31:=by unfold RowRun; kernel_rfl
theorem rowRun32:RowRun 32:=by unfold RowRun; kernel_rfl
theorem rowRun33:RowRun 33:=by unfold RowRun; kernel_rfl
theorem rowRun34:RowRun 34:=by unfold RowRun; kernel_rfl
theorem rowRun35:RowRun 35:=by unfold RowRun; kernel_rfl
theorem rowRun36:RowRun 36:=by unfold RowRun; kernel_rfl
theorem rowRun37:RowRun 37:=by unfold RowRun; kernel_rfl
theorem rowRun38:RowRun 38:=by unfold RowRun; kernel_rfl
theorem rowRun39:RowRun 39:=by unfold RowRun; kernel_rfl
theorem rowRun40:RowRun 40:=by unfold RowRun; kernel_rfl
theorem rowRun41:RowRun 41:=by unfold RowRun; kernel_rfl
end P224
