/-
  Small helps for the runs.
-/
import Derived.Test.YtkbmfpkbegjhcaaAx33
import Derived.Test.YtkbmfpkbegjhcaaProg
namespace Go.Ax
abbrev iL (n : Int) : AV := .lit (.int .i64 n)
abbrev uL (n : Int) : AV := .lit (.int .u64 n)
abbrev bL (b : Bool) : AV := .lit (.bool b)
abbrev sL (s : ByteArray) : AV := .lit (.string s)
abbrev nL : AV := .lit (.slice none 0 0)
abbrev nI : AV := .lit .nilIface
abbrev A0 := ACalls Go.Proofs.Try.prog noG
abbrev C0 := CodeC Go.Proofs.Try.prog noG
def epack (t : ByteArray) : AV := .agg [.lit (.int .i64 10), .lit (.int .u64 0), .lit (.string t), .lit (.int .i64 5), .lit (.slice none 0 0)]
end Go.Ax
