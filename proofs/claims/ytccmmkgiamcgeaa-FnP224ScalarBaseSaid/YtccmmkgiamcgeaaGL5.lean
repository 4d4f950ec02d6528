/- Law Double at a point with coordinates. -/
import Derived.Test.YtccmmkgiamcgeaaGP1
import Derived.Test.YtccmmkgiamcgeaaGT9
set_option linter.all false
namespace P224
open Go Go.RowKit Go.Proofs
set_option maxRecDepth 100000
set_option linter.unusedVariables false
end P224
/- Law Double at a point with coordinates: what its numbers are. -/
namespace P224
open Go Go.RowKit Go.Proofs
set_option maxRecDepth 100000
set_option linter.unusedVariables false
end P224
/- The length of a slice, as a law asks for it. -/
namespace P224
open Go Go.RowKit Go.Proofs
set_option maxRecDepth 100000
set_option linter.unusedVariables false
end P224
/- Laws with a slice that is no point, or too long, and more. -/
namespace P224
open Go Go.RowKit Go.Proofs
set_option maxRecDepth 100000
set_option linter.unusedVariables false
end P224
