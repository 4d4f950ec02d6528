/- The generator's table: the runs of its rows, 42 to 55. PRINTED BY A PROGRAM OF MY OWN (gen/mkrows79.py). -/
import Derived.Test.YtccmmkgiamcgeaaGW79
set_option linter.all false
namespace P224
open Go Go.RowKit Go.Proofs
set_option maxRecDepth 100000
set_option linter.unusedVariables false
theorem rowRun42:RowRun 42:=by unfold RowRun; kernel_rfl
theorem rowRun43:RowRun 43:=by unfold RowRun; kernel_rfl
theorem rowRun44:RowRun 44:=by unfold RowRun; kernel_rfl
theorem rowRun45:RowRun 45:=by unfold RowRun; kernel_rfl
theorem rowRun46:RowRun 46:=by unfold RowRun; kernel_rfl
theorem rowRun47:RowRun 47:=by unfold RowRun; kernel_rfl
theorem rowRun48:RowRun 48:=by unfold RowRun; kernel_rfl
theorem rowRun49:RowRun 49:=by unfold RowRun; kernel_rfl
theorem rowRun50:RowRun 50:=by unfold RowRun; kernel_rfl
theorem rowRun51:RowRun 51:=by unfold RowRun; kernel_rfl
theorem rowRun52:RowRun 52:=by unfold RowRun; kernel_rfl
theorem rowRun53:RowRun 53:=by unfold RowRun; kernel_rfl
theorem rowRun54:RowRun 54:=by unfold RowRun; kernel_rfl
theorem rowRun55:RowRun 55:=by unfold RowRun; kernel_rfl
end P224
