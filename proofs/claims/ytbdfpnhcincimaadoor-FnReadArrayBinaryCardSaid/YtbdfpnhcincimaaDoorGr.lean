/-
  The package-level variables that the AMQP readers' laws look at: two tables of unicode/utf8, io.EOF.
-/
import Derived.Test.YtbdfpnhcincimaaDoorAx33
import Derived.Test.YtbdfpnhcincimaaDoorProg
import Derived.Lib.ValidU
set_option linter.unusedVariables false
namespace Go.Ax
def gR (u0 : Nat) : Env := fun g => bif Nat.beq g 2 then some [.ifc u0 .dead] else bif Nat.beq g 3 then some ((List.range 256).map fun c => .lit (.int .u8 (Lib.firstT c))) else bif Nat.beq g 4 then some ((List.range 16).flatMap fun i => [.lit (.int .u8 (Lib.accLo i)), .lit (.int .u8 (Lib.accHi i))]) else none
abbrev AR (u0 : Nat) := ACalls Go.Proofs.Tryd.prog (gR u0)
end Go.Ax
