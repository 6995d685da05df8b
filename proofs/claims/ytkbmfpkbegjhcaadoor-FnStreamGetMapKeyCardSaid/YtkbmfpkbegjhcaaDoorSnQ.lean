/-
  Runs of the abstract machine, printed by program.
-/
import Derived.Test.YtkbmfpkbegjhcaaDoorSmG
import Derived.Test.YtkbmfpkbegjhcaaDoorProg
import Derived.Test.YtkbmfpkbegjhcaaDoorAx33
set_option linter.unusedVariables false
set_option linter.unusedSimpArgs false
set_option maxRecDepth 100000
set_option maxHeartbeats 0
namespace Go.Ax
open Go.Proofs
theorem q44_ev (dat : List UInt8) : evFun Tryd.prog noG Tryd.f44 [.bts dat] [] [.fin [192]] = some (AV.own 0 0 (0 + dat.length) none, [Row.bytes 5 (List.take 0 (List.drop 0 []) ++ dat)], [0 + dat.length ≤ 140737488355328]) := by kernel_rfl
theorem q44 (dat : List UInt8) (hC : AllP ([0 + dat.length ≤ 140737488355328])) : A0 44 [.bts dat] [] (AV.own 0 0 (0 + dat.length) none) ([Row.bytes 5 (List.take 0 (List.drop 0 []) ++ dat)]) := ACalls_ev (by kernel_rfl) Tryd.func44 (by kernel_rfl) (q44_ev dat) hC
end Go.Ax
