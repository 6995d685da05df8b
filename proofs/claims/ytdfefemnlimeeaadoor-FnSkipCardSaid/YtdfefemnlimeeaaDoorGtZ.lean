/-
  Runs of the abstract machine, printed by program.
-/
import Derived.Test.YtdfefemnlimeeaaDoorGtA
import Derived.Test.YtdfefemnlimeeaaDoorProg
import Derived.Test.YtdfefemnlimeeaaDoorAx33
set_option linter.unusedVariables false
set_option maxRecDepth 100000
set_option maxHeartbeats 0
namespace Go.Ax
open Go.Proofs
theorem zz0_ev (p : PackT) (fs : Int) (sb : Bool) (bh : List UInt8) (ct : Int) : evFun Tryd.prog noG Tryd.f9 [.agg (gcells p fs sb bh ct)] [] ([.bit true] ++ [.fin []]) = some (AV.lit (Go.Value.bool Bool.false), [], [Decidable.decide ((↑bh.length : Int) > (2147483647 : Int)) = Bool.true]) := by kernel_rfl
theorem zz0 (p : PackT) (fs : Int) (sb : Bool) (bh : List UInt8) (ct : Int) (hC : AllP ([Decidable.decide ((↑bh.length : Int) > (2147483647 : Int)) = Bool.true])) : ACalls Tryd.prog noG 9 [.agg (gcells p fs sb bh ct)] [] (AV.lit (Go.Value.bool Bool.false)) ([]) := ACalls_ev (by kernel_rfl) Tryd.func9 (by kernel_rfl) (zz0_ev p fs sb bh ct) hC
end Go.Ax
