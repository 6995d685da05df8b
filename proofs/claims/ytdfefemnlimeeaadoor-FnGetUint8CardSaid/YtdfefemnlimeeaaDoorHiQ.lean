/-
  Runs of the abstract machine, printed by program.
-/
import Derived.Test.YtdfefemnlimeeaaDoorGtA
import Derived.Test.YtdfefemnlimeeaaDoorProg
import Derived.Test.YtdfefemnlimeeaaDoorAx33
set_option linter.unusedVariables false
set_option maxRecDepth 100000
set_option maxHeartbeats 0
namespace Go.Ax
open Go.Proofs
theorem iitN_ev (p : PackT) (b0 z1 : Bool) : evFun Tryd.prog noG Tryd.f29 [pAV p] [] [.both b0, .both b0, .both b0, .name z1, .fin []] = some (AV.lit (.bool z1), [], [(p.kind == (2 : Int)) = false → b0 = true, z1 = bif p.kind == (2 : Int) then true else p.kind == (3 : Int), b0 = !p.kind == (2 : Int), b0 = true → AllP [b0 = true], b0 = !p.kind == (2 : Int), b0 = true → AllP [b0 = true], b0 = !p.kind == (2 : Int), b0 = true → AllP []]) := by kernel_rfl
theorem iitN (p : PackT) (hC : AllP []) : ACalls Tryd.prog noG 29 [pAV p] [] (AV.lit (.bool (bif p.kind == (2 : Int) then true else p.kind == (3 : Int)))) ([]) :=
  (fun (b0 z1 : Bool) (q0 : b0 = (!p.kind == (2 : Int))) (q1 : z1 = (bif p.kind == (2 : Int) then true else p.kind == (3 : Int))) (hC : AllP []) => ACalls_ev (by kernel_rfl) Tryd.func29 (by kernel_rfl) (iitN_ev p b0 z1) (AC (fun ht => by first | exact q0 | (rw [q0, ht]; done) | (rw [q0]; simp [ht])) (AC q1 (AC q0 (AC (fun h => AC h (AllP_nil)) (AC q0 (AC (fun h => AC h (AllP_nil)) (AC q0 (AC (fun h => AllP_nil) (AllP_nil)))))))))) _ _ rfl rfl hC
end Go.Ax
