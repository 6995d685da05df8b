/-
  Slices of texts as abstract values that nobody writes.
-/
import Derived.Test.YtemlccbnicdfgaaDoorUaA
namespace Go.Ax
def roS (l : List ByteArray) : AV := .ro 1 l.length (fun i => [.lit (.string (l.getD i .empty))])
end Go.Ax
