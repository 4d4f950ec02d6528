/- The generator's table: the runs of its rows, 0 to 13. PRINTED BY A PROGRAM OF MY OWN (gen/mkrows79.py). -/
import Derived.Test.YtccmmkgiamcgeaaGW79
set_option linter.all false
namespace P224
open Go Go.RowKit Go.Proofs
set_option maxRecDepth 100000
set_option linter.unusedVariables false
theorem rowRun0:RowRun 0:=by unfold RowRun; kernel_rfl
theorem rowRun1:RowRun 1:=by unfold RowRun; kernel_rfl
theorem rowRun2:RowRun 2:=by unfold RowRun; kernel_rfl
theorem rowRun3:RowRun 3:=by unfold RowRun; kernel_rfl
theorem rowRun4:RowRun 4:=by unfold RowRun; kernel_rfl
theorem rowRun5:RowRun 5:=by unfold RowRun; kernel_rfl
theorem rowRun6:RowRun 6:=by unfold RowRun; kernel_rfl
theorem rowRun7:RowRun 7:=by unfold RowRun; kernel_rfl
theorem rowRun8:RowRun 8:=by unfold RowRun; kernel_rfl
theorem rowRun9:RowRun 9:=by unfold RowRun; kernel_rfl
theorem rowRun10:RowRun 10:=by unfold RowRun; kernel_rfl
theorem rowRun11:RowRun 11:=by unfold RowRun; kernel_rfl
theorem rowRun12:RowRun 12:=by unfold RowRun; kernel_rfl
theorem rowRun13:RowRun 13:=by unfold RowRun; kernel_rfl
end P224
