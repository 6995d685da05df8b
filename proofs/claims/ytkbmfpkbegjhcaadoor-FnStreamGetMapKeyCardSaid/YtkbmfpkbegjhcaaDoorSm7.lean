/-
  Runs of the abstract machine, printed by program.
-/
import Derived.Test.YtkbmfpkbegjhcaaDoorSm2
import Derived.Test.YtkbmfpkbegjhcaaDoorProg
import Derived.Test.YtkbmfpkbegjhcaaDoorAx33
set_option linter.unusedVariables false
set_option linter.unusedSimpArgs false
set_option maxRecDepth 100000
set_option maxHeartbeats 0
namespace Go.Ax
open Go.Proofs
theorem q165_ev (z g o r : Nat) (dat : List UInt8) : evFun Tryd.prog noG Tryd.f165 [.ifc 203 (.ptr 0 0), iL z] [drpR 1 o r g, .bytes 5 dat] [.bit false, .fin [0, 1, 386]] = some (AV.ptr 2 0, [Row.cells 205 2 [AV.own 1 o r none, iL (↑g : Int)], Row.bytes 5 dat, Row.cells 212 5 [AV.ifc 203 (AV.ptr 0 0), nL, iL 0, iL (↑z : Int), nI]], [decide ((↑z : Int) < (16 : Int)) = false]) := by kernel_rfl
theorem q165 (z g o r : Nat) (dat : List UInt8) (hC : AllP ([decide ((↑z : Int) < (16 : Int)) = false])) : A0 165 [.ifc 203 (.ptr 0 0), iL z] [drpR 1 o r g, .bytes 5 dat] (AV.ptr 2 0) ([Row.cells 205 2 [AV.own 1 o r none, iL (↑g : Int)], Row.bytes 5 dat, Row.cells 212 5 [AV.ifc 203 (AV.ptr 0 0), nL, iL 0, iL (↑z : Int), nI]]) := ACalls_ev (by kernel_rfl) Tryd.func165 (by kernel_rfl) (q165_ev z g o r dat) hC
theorem q129_ev (z g o r : Nat) (dat : List UInt8) : evFun Tryd.prog noG Tryd.f129 [.ifc 203 (.ptr 0 0), iL z] [drpR 1 o r g, .bytes 5 dat] [.call [0, 1] [AV.ifc (203 : Go.TypeId) (AV.ptr 0 0), iL (↑z : Int)] [drpR 1 o r g, Row.bytes (5 : Go.TypeId) dat] (AV.ptr 2 0) [drpR 1 o r g, Row.bytes (5 : Go.TypeId) dat, Row.cells (212 : Go.TypeId) 5 [AV.ifc (203 : Go.TypeId) (AV.ptr 0 0), nL, iL (0 : Int), iL (↑z : Int), nI]], .fin [0, 1, 322, 194]] = some (AV.ptr 2 0, [Row.cells 205 2 [AV.own 1 o r none, iL (↑g : Int)], Row.bytes 5 dat, Row.cells 135 6 [AV.ptr 3 0, nL, iL 0, iL 0, AV.lit (.int .u32 0), uL 0], Row.cells 212 5 [AV.ifc 203 (AV.ptr 0 0), nL, iL 0, iL (↑z : Int), nI]], [A0 165 [AV.ifc 203 (AV.ptr 0 0), iL (↑z : Int)] [Row.cells 205 2 [AV.own 1 o r none, iL (↑g : Int)], Row.bytes 5 dat] (AV.ptr 2 0) [Row.cells 205 2 [AV.own 1 o r none, iL (↑g : Int)], Row.bytes 5 dat, Row.cells 212 5 [AV.ifc 203 (AV.ptr 0 0), nL, iL 0, iL (↑z : Int), nI]], leAll [AV.ifc 203 (AV.ptr 0 0), iL (↑z : Int)] [AV.ifc 203 (AV.ptr 0 0), iL (↑z : Int)], RowLe (Row.cells 205 2 [AV.own 1 o r none, iL (↑g : Int)]) (Row.cells 205 2 [AV.own 1 o r none, iL (↑g : Int)]) ∧ RowLe (Row.bytes 5 dat) (Row.bytes 5 dat) ∧ True]) := by kernel_rfl
theorem q129 (z g o r : Nat) (dat : List UInt8) (hC : AllP ([A0 165 [AV.ifc 203 (AV.ptr 0 0), iL (↑z : Int)] [Row.cells 205 2 [AV.own 1 o r none, iL (↑g : Int)], Row.bytes 5 dat] (AV.ptr 2 0) [Row.cells 205 2 [AV.own 1 o r none, iL (↑g : Int)], Row.bytes 5 dat, Row.cells 212 5 [AV.ifc 203 (AV.ptr 0 0), nL, iL 0, iL (↑z : Int), nI]], leAll [AV.ifc 203 (AV.ptr 0 0), iL (↑z : Int)] [AV.ifc 203 (AV.ptr 0 0), iL (↑z : Int)], RowLe (Row.cells 205 2 [AV.own 1 o r none, iL (↑g : Int)]) (Row.cells 205 2 [AV.own 1 o r none, iL (↑g : Int)]) ∧ RowLe (Row.bytes 5 dat) (Row.bytes 5 dat) ∧ True])) : A0 129 [.ifc 203 (.ptr 0 0), iL z] [drpR 1 o r g, .bytes 5 dat] (AV.ptr 2 0) ([Row.cells 205 2 [AV.own 1 o r none, iL (↑g : Int)], Row.bytes 5 dat, Row.cells 135 6 [AV.ptr 3 0, nL, iL 0, iL 0, AV.lit (.int .u32 0), uL 0], Row.cells 212 5 [AV.ifc 203 (AV.ptr 0 0), nL, iL 0, iL (↑z : Int), nI]]) := ACalls_ev (by kernel_rfl) Tryd.func129 (by kernel_rfl) (q129_ev z g o r dat) hC
end Go.Ax
