/-
  Runs of the abstract machine, printed by program.
-/
import Derived.Test.YtkbmfpkbegjhcaaDoorSm2
import Derived.Test.YtkbmfpkbegjhcaaDoorProg
import Derived.Test.YtkbmfpkbegjhcaaDoorAx33
set_option linter.unusedVariables false
set_option linter.unusedSimpArgs false
set_option maxRecDepth 100000
set_option maxHeartbeats 0
namespace Go.Ax
open Go.Proofs
theorem q101_ev (v : Int) : evFun Tryd.prog noG Tryd.f101 [.lit (.int .u8 v)] [] [.fin []] = some (bL (v.fdiv (128 : Int) == (0 : Int)), [], [(0 : Int) ≤ (7 : Int)]) := by kernel_rfl
theorem q101 (v : Int) (hC : AllP ([(0 : Int) ≤ (7 : Int)])) : A0 101 [.lit (.int .u8 v)] [] (bL (v.fdiv (128 : Int) == (0 : Int))) ([]) := ACalls_ev (by kernel_rfl) Tryd.func101 (by kernel_rfl) (q101_ev v) hC
theorem q102_ev (v : Int) : evFun Tryd.prog noG Tryd.f102 [.lit (.int .u8 v)] [] [.fin []] = some (AV.lit (.int .u8 v), [], []) := by kernel_rfl
theorem q102 (v : Int) (hC : AllP ([])) : A0 102 [.lit (.int .u8 v)] [] (AV.lit (.int .u8 v)) ([]) := ACalls_ev (by kernel_rfl) Tryd.func102 (by kernel_rfl) (q102_ev v) hC
end Go.Ax
