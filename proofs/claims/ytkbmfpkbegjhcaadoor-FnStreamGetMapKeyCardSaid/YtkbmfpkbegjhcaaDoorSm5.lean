/-
  Runs of the abstract machine, printed by program.
-/
import Derived.Test.YtkbmfpkbegjhcaaDoorSm2
import Derived.Test.YtkbmfpkbegjhcaaDoorProg
import Derived.Test.YtkbmfpkbegjhcaaDoorAx33
set_option linter.unusedVariables false
set_option linter.unusedSimpArgs false
set_option maxRecDepth 100000
set_option maxHeartbeats 0
namespace Go.Ax
open Go.Proofs
end Go.Ax
