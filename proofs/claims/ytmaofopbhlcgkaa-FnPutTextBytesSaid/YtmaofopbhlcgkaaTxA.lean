/-
  A text of MessagePack as an abstract value.
-/
import Derived.Test.YtmaofopbhlcgkaaPbA
namespace Go.Ax
def tpack (t : ByteArray) : AV := .agg [.lit (.int .i64 6), .lit (.int .u64 0), .lit (.string t), .lit (.int .i64 0), .lit (.slice none 0 0)]
end Go.Ax
