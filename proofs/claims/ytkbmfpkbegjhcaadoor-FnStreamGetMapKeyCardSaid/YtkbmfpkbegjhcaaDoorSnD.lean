/-
  Runs of the abstract machine, printed by program.
-/
import Derived.Test.YtkbmfpkbegjhcaaDoorSnC
import Derived.Test.YtkbmfpkbegjhcaaDoorProg
import Derived.Test.YtkbmfpkbegjhcaaDoorAx33
set_option linter.unusedVariables false
set_option linter.unusedSimpArgs false
set_option maxRecDepth 100000
set_option maxHeartbeats 0
namespace Go.Ax
open Go.Proofs
theorem q14 (a c : Int) (hC : AllP []) : A0 14 [iL a, iL c] [] (bL (bif bif bif decide (a ≥ (18 : Int)) then decide (a ≤ (65536 : Int)) else false then decide (c ≥ (1 : Int)) else false then decide (c ≤ (65536 : Int)) else false)) ([]) :=
  (fun (b0 z1 b2 z3 b4 z5 : Bool) (q0 : b0 = (decide (a ≥ (18 : Int)))) (q1 : z1 = (bif decide (a ≥ (18 : Int)) then decide (a ≤ (65536 : Int)) else false)) (q2 : b2 = (z1)) (q3 : z3 = (bif z1 then decide (c ≥ (1 : Int)) else false)) (q4 : b4 = (z3)) (q5 : z5 = (bif z3 then decide (c ≤ (65536 : Int)) else false)) (hC : AllP []) => ACalls_scr (ret := bL z5) [] Tryd.func14 (SP (p := z3 = true → b4 = true) (k0 q4) (SN q5 (B1 q4 (B0 q4 (SP (p := z1 = true → b2 = true) (k0 q2) (SN q3 (B1 q2 (B0 q2 (SP (p := decide (a ≥ (18 : Int)) = true → b0 = true) (k0 q0) (SN q1 (B1 q0 (B0 q0 S0))))))))))))) _ _ _ _ _ _ rfl rfl rfl rfl rfl rfl hC
end Go.Ax
