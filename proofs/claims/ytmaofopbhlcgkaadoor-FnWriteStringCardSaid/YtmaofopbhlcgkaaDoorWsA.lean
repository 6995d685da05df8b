/-
  A text of AMQP as an abstract value; the tables of unicode/utf8 as what is known of package-level variables.
-/
import Derived.Test.YtmaofopbhlcgkaaDoorWiA
import Derived.Test.YtmaofopbhlcgkaaDoorAx30
import Derived.Shelf.Unicode.DecodeSlow
namespace Go.Ax
open Go.Proofs
def scells (k : Int) (s : ByteArray) : List AV := [.lit (.int .i64 k), .lit (.int .u64 0), .lit (.string s), .lit (.slice none 0 0), .lit (.int .i64 0), .lit (.slice none 0 0)]
def spackA (k : Int) (s : ByteArray) : AV := .agg (scells k s)
def gU : Env := fun g => bif Nat.beq g 0 then some ((List.range 256).map fun c => .lit (.int .u8 (Lib.firstT c))) else bif Nat.beq g 1 then some ((List.range 16).flatMap fun i => [.lit (.int .u8 (Lib.accLo i)), .lit (.int .u8 (Lib.accHi i))]) else none
end Go.Ax
