/-
  Runs of the abstract machine, printed by program.
-/
import Derived.Test.YtbdfpnhcincimaaDoorVaA
import Derived.Test.YtbdfpnhcincimaaDoorProg
import Derived.Test.YtbdfpnhcincimaaDoorAx33
set_option linter.unusedVariables false
set_option linter.unusedSimpArgs false
set_option maxRecDepth 100000
set_option maxHeartbeats 0
namespace Go.Ax
open Go.Proofs
theorem gpkA (n st : Int) (sh : Bool) (hC : AllP [(bif sh then true else decide (n ≤ (1 : Int))) = true]) : A0 57 [.ptr 0 0, iL n] [fR st sh] (iL 0) ([fR st sh]) :=
  (fun (b0 z1 : Bool) (q0 : b0 = (!sh)) (q1 : z1 = (bif sh then true else decide (n ≤ (1 : Int)))) (hC : AllP [z1 = true]) => ACalls_scr [0] Tryd.func57 (SP (getP 0 hC) (SP (p := sh = false → b0 = true) (k1 q0) (Tt (SN q1 (B1 q0 (B0 q0 S0))))))) _ _ rfl rfl hC
theorem gpkB (n st : Int) (sh : Bool) (hC : AllP [n ≠ (0 : Int), (bif sh then true else decide (n ≤ (1 : Int))) = false]) : A0 57 [.ptr 0 0, iL n] [fR st sh] (iL ((IntKind.i64.wrap ((IntKind.u64.wrap (IntKind.u64.wrap (st * (6364136223846793005 : Int)) + (1442695040888963407 : Int))).fdiv (8589934592 : Int))).tmod n)) ([Row.cells 48 2 [uL (IntKind.u64.wrap (IntKind.u64.wrap (st * (6364136223846793005 : Int)) + (1442695040888963407 : Int))), bL sh]]) :=
  (fun (b0 z1 : Bool) (q0 : b0 = (!sh)) (q1 : z1 = (bif sh then true else decide (n ≤ (1 : Int)))) (hC : AllP [n ≠ (0 : Int), z1 = false]) => ACalls_scr [0] Tryd.func57 (SP (getP 0 hC) (SQ ((0 : Int) ≤ (33 : Int)) (SQ (1 ≤ 2) (SP (getP 1 hC) (SP (p := sh = false → b0 = true) (k1 q0) (Tf (SN q1 (B1 q0 (B0 q0 S0)))))))))) _ _ rfl rfl hC
end Go.Ax
