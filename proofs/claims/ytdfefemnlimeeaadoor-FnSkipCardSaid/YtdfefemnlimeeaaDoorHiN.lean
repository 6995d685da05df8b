/-
  Runs of the abstract machine, printed by program.
-/
import Derived.Test.YtdfefemnlimeeaaDoorGtA
import Derived.Test.YtdfefemnlimeeaaDoorProg
import Derived.Test.YtdfefemnlimeeaaDoorAx33
set_option linter.unusedVariables false
set_option maxRecDepth 100000
set_option maxHeartbeats 0
namespace Go.Ax
open Go.Proofs
theorem rf54_ev (v : Int) : evFun Tryd.prog noG Tryd.f54 [.lit (.int .u8 v)] [] [.fin []] = some (AV.lit (.int .u8 v), [], []) := by kernel_rfl
theorem rf54 (v : Int) (hC : AllP []) : ACalls Tryd.prog noG 54 [.lit (.int .u8 v)] [] (AV.lit (.int .u8 v)) ([]) := ACalls_ev (by kernel_rfl) Tryd.func54 (by kernel_rfl) (rf54_ev v) (AllP_nil)
theorem rf56_ev (v : Int) : evFun Tryd.prog noG Tryd.f56 [.lit (.int .u8 v)] [] [.fin []] = some (AV.lit (.int .i8 (IntKind.i8.wrap v)), [], []) := by kernel_rfl
theorem rf56 (v : Int) (hC : AllP []) : ACalls Tryd.prog noG 56 [.lit (.int .u8 v)] [] (AV.lit (.int .i8 (IntKind.i8.wrap v))) ([]) := ACalls_ev (by kernel_rfl) Tryd.func56 (by kernel_rfl) (rf56_ev v) (AllP_nil)
end Go.Ax
