/-
  Runs of the abstract machine, printed by program.
-/
import Derived.Test.YtbdfpnhcincimaaDoorVaA
import Derived.Test.YtbdfpnhcincimaaDoorGr
import Derived.Test.YtbdfpnhcincimaaDoorProg
import Derived.Test.YtbdfpnhcincimaaDoorAx33
set_option linter.unusedVariables false
set_option linter.unusedSimpArgs false
set_option maxRecDepth 100000
set_option maxHeartbeats 0
namespace Go.Ax
open Go.Proofs
theorem zzA (p : ValT) (fs : Int) (bh : List UInt8) (ct : Int) (hC : AllP [(↑bh.length : Int) ≤ (2147483647 : Int)]) : A0 12 [hAV p fs bh ct] [] (bL true) ([]) :=
  ACalls.cast ((fun  (hC : AllP [decide ((↑bh.length : Int) > (2147483647 : Int)) = false]) => ACalls_scr [] Tryd.func12 (SP (getP 0 hC) (Tf S0)))   (AC (sC hC.1) AN)) rfl rfl rfl rfl
theorem zzB_ev (p : ValT) (fs : Int) (bh : List UInt8) (ct : Int) : evFun Tryd.prog noG Tryd.f12 [hAV p fs bh ct] [] ([.bit true] ++ [.fin []]) = some (bL false, [], [decide ((↑bh.length : Int) > (2147483647 : Int)) = true]) := by kernel_rfl
theorem zzB (p : ValT) (fs : Int) (bh : List UInt8) (ct : Int) (hC : AllP ([decide ((↑bh.length : Int) > (2147483647 : Int)) = true])) : A0 12 [hAV p fs bh ct] [] (bL false) ([]) := ACalls_ev (by kernel_rfl) Tryd.func12 (by kernel_rfl) (zzB_ev p fs bh ct) hC
end Go.Ax
