/-
  Small helps for the runs.
-/
import Derived.Test.YtmaofopbhlcgkaaAx25
namespace Go.Ax
def bits : Nat → Bool → List Orc
  | 0, _ => []
  | n + 1, b => .bit b :: bits n b
def zpack (k n : Int) : AV := .agg [.lit (.int .i64 k), .lit (.int .u64 n), .lit (.string .empty), .lit (.int .i64 0), .lit (.slice none 0 0)]
end Go.Ax
