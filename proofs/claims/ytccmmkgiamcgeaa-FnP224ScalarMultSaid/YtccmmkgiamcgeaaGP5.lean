/- The tables of the laws, with points read and parsed by contract. -/
import Derived.Test.YtccmmkgiamcgeaaGP2
set_option linter.all false
namespace P224
open Go Go.RowKit Go.Proofs
set_option maxRecDepth 100000
set_option linter.unusedVariables false

noncomputable def x28 : X := X.or x28a (inlX (tabX true [] xq2) 2000 Try.f28)
theorem x28_ok : XOk Try.prog 28 x28 := X.or_ok x28a_ok (inlX_ok (tabX_ok noPrims_ok xq2_ok) 2000 Try.func28 (by kernel_rfl))
noncomputable def x61 : X := X.or x61a (inlX (tabX true pointPrims xi3) 2000 Try.f61)
theorem x61_ok : XOk Try.prog 61 x61 := X.or_ok x61a_ok (inlX_ok (tabX_ok pointPrims_ok xi3_ok) 2000 Try.func61 (by kernel_rfl))
noncomputable def xm0 : List (Nat × X) := with1 (with1 ((61, x61) :: xi3) pointPrims 2000 49 Try.f49) pointPrims 2000 72 Try.f72
theorem xm0_ok : XsOk xm0 := with1_ok pointPrims_ok (with1_ok pointPrims_ok (xcons_ok x61_ok xi3_ok) Try.func49 (by kernel_rfl)) Try.func72 (by kernel_rfl)
noncomputable def xm1 : List (Nat × X) := (23, x23) :: (22, x22) :: (28, x28) :: (xq2 ++ xm0)
theorem xm1_ok : XsOk xm1 := xcons_ok x23_ok (xcons_ok x22_ok (xcons_ok x28_ok (xq2_ok.app xm0_ok)))
noncomputable def xm2 : List (Nat × X) := with1 (with1 (with1 (with1 xm1 pointPrims 2000 30 Try.f30) pointPrims 2000 31 Try.f31) pointPrims 2000 35 Try.f35) pointPrims 2000 34 Try.f34
theorem xm2_ok : XsOk xm2 := with1_ok pointPrims_ok (with1_ok pointPrims_ok (with1_ok pointPrims_ok (with1_ok pointPrims_ok xm1_ok Try.func30 (by kernel_rfl)) Try.func31 (by kernel_rfl)) Try.func35 (by kernel_rfl)) Try.func34 (by kernel_rfl)
noncomputable def xm3 : List (Nat × X) := with1 (with1 (with1 xm2 pointPrims 2000 39 Try.f39) pointPrims 2000 37 Try.f37) pointPrims 2000 33 Try.f33
theorem xm3_ok : XsOk xm3 := with1_ok pointPrims_ok (with1_ok pointPrims_ok (with1_ok pointPrims_ok xm2_ok Try.func39 (by kernel_rfl)) Try.func37 (by kernel_rfl)) Try.func33 (by kernel_rfl)
noncomputable def xm4 : List (Nat × X) := with1 (with1 xm3 pointPrims 2000 40 Try.f40) pointPrims 2000 38 Try.f38
theorem xm4_ok : XsOk xm4 := with1_ok pointPrims_ok (with1_ok pointPrims_ok xm3_ok Try.func40 (by kernel_rfl)) Try.func38 (by kernel_rfl)
end P224
