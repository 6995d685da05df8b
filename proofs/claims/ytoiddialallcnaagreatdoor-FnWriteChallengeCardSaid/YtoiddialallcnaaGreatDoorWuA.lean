/-
  A value of AMQP that is a number, as an abstract value.
-/
import Derived.Test.YtoiddialallcnaaGreatDoorAx33
namespace Go.Ax
def vcells (k n : Int) : List AV := [.lit (.int .i64 k), .lit (.int .u64 n), .lit (.string .empty), .lit (.slice none 0 0), .lit (.int .i64 0), .lit (.slice none 0 0)]
def vpack (k n : Int) : AV := .agg (vcells k n)
end Go.Ax
