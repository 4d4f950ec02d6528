/- The generator's table: the runs of its rows, 14 to 27. PRINTED BY A PROGRAM OF MY OWN (gen/mkrows79.py). -/
import Derived.Test.YtccmmkgiamcgeaaGW79
set_option linter.all false
namespace P224
open Go Go.RowKit Go.Proofs
set_option maxRecDepth 100000
set_option linter.unusedVariables false
theorem rowRun14:RowRun 14:=by unfold RowRun; kernel_rfl
theorem rowRun15:RowRun 15:=by unfold RowRun; kernel_rfl
theorem rowRun16:RowRun 16:=by unfold RowRun; kernel_rfl
theorem rowRun17:RowRun 17:=by unfold RowRun; kernel_rfl
theorem rowRun18:RowRun 18:=by unfold RowRun; kernel_rfl
theorem rowRun19:RowRun 19:=by unfold RowRun; kernel_rfl
theorem rowRun20:RowRun 20:=by unfold RowRun; kernel_rfl
theorem rowRun21:RowRun 21:=by unfold RowRun; kernel_rfl
theorem rowRun22:RowRun 22:=by unfold RowRun; kernel_rfl
theorem rowRun23:RowRun 23:=by unfold RowRun; kernel_rfl
theorem rowRun24:RowRun 24:=by unfold RowRun; kernel_rfl
theorem rowRun25:RowRun 25:=by unfold RowRun; kernel_rfl
theorem rowRun26:RowRun 26:=by unfold RowRun; kernel_rfl
theorem rowRun27:RowRun 27:=by unfold RowRun; kernel_rfl
end P224
