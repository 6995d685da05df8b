/-
  Runs of the abstract machine, printed by program.
-/
import Derived.Test.YtbdfpnhcincimaaDoorVaA
import Derived.Test.YtbdfpnhcincimaaDoorGr
import Derived.Test.YtbdfpnhcincimaaDoorProg
import Derived.Test.YtbdfpnhcincimaaDoorAx33
set_option linter.unusedVariables false
set_option linter.unusedSimpArgs false
set_option maxRecDepth 100000
set_option maxHeartbeats 0
namespace Go.Ax
open Go.Proofs
theorem zzA_ev (p : ValT) (fs : Int) (bh : List UInt8) (ct : Int) : evFun Tryd.prog noG Tryd.f12 [hAV p fs bh ct] [] [.bit false, .fin []] = some (bL true, [], [decide ((↑bh.length : Int) > (2147483647 : Int)) = false]) := by kernel_rfl
theorem zzA (p : ValT) (fs : Int) (bh : List UInt8) (ct : Int) (hC : AllP [(↑bh.length : Int) ≤ (2147483647 : Int)]) : A0 12 [hAV p fs bh ct] [] (bL true) ([]) :=
  ACalls.cast ((fun  (hC : AllP [decide ((↑bh.length : Int) > (2147483647 : Int)) = false]) => ACalls_ev (by kernel_rfl) Tryd.func12 (by kernel_rfl) (zzA_ev p fs bh ct ) (AC (getP 0 hC) AN))   (AC (by first | (simp (disch := (first | omega | (simp; done) | (simp; omega))) [tL, ofNat_wrap, wrap64, leAll]; exact hC.1) | exact hC.1) AN)) rfl rfl rfl rfl
theorem zzB_ev (p : ValT) (fs : Int) (bh : List UInt8) (ct : Int) : evFun Tryd.prog noG Tryd.f12 [hAV p fs bh ct] [] ([.bit true] ++ [.fin []]) = some (bL false, [], [decide ((↑bh.length : Int) > (2147483647 : Int)) = true]) := by kernel_rfl
theorem zzB (p : ValT) (fs : Int) (bh : List UInt8) (ct : Int) (hC : AllP ([decide ((↑bh.length : Int) > (2147483647 : Int)) = true])) : A0 12 [hAV p fs bh ct] [] (bL false) ([]) := ACalls_ev (by kernel_rfl) Tryd.func12 (by kernel_rfl) (zzB_ev p fs bh ct) hC
end Go.Ax
