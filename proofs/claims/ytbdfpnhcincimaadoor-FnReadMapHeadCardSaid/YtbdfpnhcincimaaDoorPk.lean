/-
  Runs of the abstract machine, printed by program.
-/
import Derived.Test.YtbdfpnhcincimaaDoorVaA
import Derived.Test.YtbdfpnhcincimaaDoorProg
import Derived.Test.YtbdfpnhcincimaaDoorAx33
set_option linter.unusedVariables false
set_option linter.unusedSimpArgs false
set_option maxRecDepth 100000
set_option maxHeartbeats 0
namespace Go.Ax
open Go.Proofs
theorem gpkA_ev (n st : Int) (sh : Bool) (b0 z1 : Bool) : evFun Tryd.prog noG Tryd.f57 [.ptr 0 0, iL n] [fR st sh] [.both b0, .both b0, .name z1, .bit true, .fin [0]] = some (iL 0, [fR st sh], [z1 = true, sh = false → b0 = true, z1 = bif sh then true else decide (n ≤ (1 : Int)), b0 = !sh, N1 b0, b0 = !sh, N0 b0]) := by kernel_rfl
theorem gpkA (n st : Int) (sh : Bool) (hC : AllP [(bif sh then true else decide (n ≤ (1 : Int))) = true]) : A0 57 [.ptr 0 0, iL n] [fR st sh] (iL 0) ([fR st sh]) :=
  (fun (b0 z1 : Bool) (q0 : b0 = (!sh)) (q1 : z1 = (bif sh then true else decide (n ≤ (1 : Int)))) (hC : AllP [z1 = true]) => ACalls_ev (by kernel_rfl) Tryd.func57 (by kernel_rfl) (gpkA_ev n st sh b0 z1) (AC (getP 0 hC) (AC (fun ht => by first | exact q0 | (rw [q0, ht]; first | done | rfl) | (rw [q0]; simp [ht])) (AC q1 (AC q0 (AC hA1 (AC q0 (AC hA0 AN)))))))) _ _ rfl rfl hC
theorem gpkB_ev (n st : Int) (sh : Bool) (b0 z1 : Bool) : evFun Tryd.prog noG Tryd.f57 [.ptr 0 0, iL n] [fR st sh] [.both b0, .both b0, .name z1, .bit false, .fin [0]] = some (iL ((IntKind.i64.wrap ((IntKind.u64.wrap (IntKind.u64.wrap (st * (6364136223846793005 : Int)) + (1442695040888963407 : Int))).fdiv (8589934592 : Int))).tmod n), [Row.cells 48 2 [uL (IntKind.u64.wrap (IntKind.u64.wrap (st * (6364136223846793005 : Int)) + (1442695040888963407 : Int))), bL sh]], [n ≠ (0 : Int), (0 : Int) ≤ (33 : Int), 1 ≤ 2, z1 = false, sh = false → b0 = true, z1 = bif sh then true else decide (n ≤ (1 : Int)), b0 = !sh, N1 b0, b0 = !sh, N0 b0]) := by kernel_rfl
theorem gpkB (n st : Int) (sh : Bool) (hC : AllP [n ≠ (0 : Int), (bif sh then true else decide (n ≤ (1 : Int))) = false]) : A0 57 [.ptr 0 0, iL n] [fR st sh] (iL ((IntKind.i64.wrap ((IntKind.u64.wrap (IntKind.u64.wrap (st * (6364136223846793005 : Int)) + (1442695040888963407 : Int))).fdiv (8589934592 : Int))).tmod n)) ([Row.cells 48 2 [uL (IntKind.u64.wrap (IntKind.u64.wrap (st * (6364136223846793005 : Int)) + (1442695040888963407 : Int))), bL sh]]) :=
  (fun (b0 z1 : Bool) (q0 : b0 = (!sh)) (q1 : z1 = (bif sh then true else decide (n ≤ (1 : Int)))) (hC : AllP [n ≠ (0 : Int), z1 = false]) => ACalls_ev (by kernel_rfl) Tryd.func57 (by kernel_rfl) (gpkB_ev n st sh b0 z1) (AC (getP 0 hC) (AC (by decide) (AC (by decide) (AC (getP 1 hC) (AC (fun ht => by first | exact q0 | (rw [q0, ht]; first | done | rfl) | (rw [q0]; simp [ht])) (AC q1 (AC q0 (AC hA1 (AC q0 (AC hA0 AN))))))))))) _ _ rfl rfl hC
end Go.Ax
