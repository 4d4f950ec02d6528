/- Calls that take points by their bytes and give one: as the executor knows them. -/
import Derived.Test.YtccmmkgiamcgeaaHP7
set_option linter.all false
namespace P224
open Go Go.RowKit Go.Proofs
set_option maxRecDepth 100000
set_option linter.unusedVariables false
def v4 (i j k l:Nat):List Wd:=[.v i,.v j,.v k,.v l]
end P224
/- The reference's Sum of two points. PRINTED BY A PROGRAM OF MY OWN (gen/mk32b.py). -/
namespace P224
open Go Go.RowKit Go.Proofs
set_option maxRecDepth 100000
set_option linter.unusedVariables false
end P224
