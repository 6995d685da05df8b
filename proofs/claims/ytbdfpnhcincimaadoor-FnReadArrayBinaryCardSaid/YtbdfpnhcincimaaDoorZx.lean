/-
  Runs of the abstract machine, printed by program.
-/
import Derived.Test.YtbdfpnhcincimaaDoorVaA
import Derived.Test.YtbdfpnhcincimaaDoorGr
import Derived.Test.YtbdfpnhcincimaaDoorProg
import Derived.Test.YtbdfpnhcincimaaDoorAx33
set_option linter.unusedVariables false
set_option linter.unusedSimpArgs false
set_option maxRecDepth 100000
set_option maxHeartbeats 0
namespace Go.Ax
open Go.Proofs
end Go.Ax
