/-
  Slices of whole numbers, of floats, of values of AMQP, as abstract values that nobody writes.
-/
import Derived.Test.YtemlccbnicdfgaaDoorAx28
import Derived.Test.YtemlccbnicdfgaaDoorAx30
namespace Go.Ax
def roL (l : List Int) : AV := .ro 1 l.length (fun i => [.lit (.int .u64 (l.getD i 0))])
def itC (k : Int) (x : Int × ByteArray) : List AV := [.lit (.int .i64 k), .lit (.int .u64 x.1), .lit (.string x.2), .lit (.slice none 0 0), .lit (.int .i64 0), .lit (.slice none 0 0)]
def roK (k : Int) (l : List (Int × ByteArray)) : AV := .ro 6 l.length (fun i => itC k (l.getD i (0, .empty)))
def arrC (e : Int) (K : AV) : List AV := [.lit (.int .i64 23), .lit (.int .u64 0), .lit (.string .empty), K, .lit (.int .i64 e), .lit (.slice none 0 0)]
def arrA (k e : Int) (l : List (Int × ByteArray)) : AV := .agg (arrC e (roK k l))
end Go.Ax
