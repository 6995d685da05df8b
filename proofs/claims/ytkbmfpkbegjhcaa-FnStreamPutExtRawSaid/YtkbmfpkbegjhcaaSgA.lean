/-
  Values of MessagePack as trees, as abstract values.
-/
import Derived.Test.YtkbmfpkbegjhcaaAx33
namespace Go.Ax
inductive PackT where
  | nul
  | mk (kind num : Int) (text : ByteArray) (ext : Int) (n : Nat) (kid : Nat → PackT)
def PackT.kind : PackT → Int | .mk k _ _ _ _ _ => k | .nul => 0
def PackT.num : PackT → Int | .mk _ u _ _ _ _ => u | .nul => 0
def PackT.text : PackT → ByteArray | .mk _ _ t _ _ _ => t | .nul => .empty
def PackT.ext : PackT → Int | .mk _ _ _ e _ _ => e | .nul => 0
def PackT.n : PackT → Nat | .mk _ _ _ _ n _ => n | .nul => 0
def PackT.kidc : PackT → Nat → List AV
  | .mk _ _ _ _ _ f, i => [.lit (.int .i64 (f i).kind), .lit (.int .u64 (f i).num), .lit (.string (f i).text), .lit (.int .i64 (f i).ext), .ro 5 (f i).n (fun j => (f i).kidc j)]
  | .nul, _ => []
def pcells (p : PackT) : List AV := [.lit (.int .i64 p.kind), .lit (.int .u64 p.num), .lit (.string p.text), .lit (.int .i64 p.ext), .ro 5 p.n (fun j => p.kidc j)]
def pAV (p : PackT) : AV := .agg (pcells p)
/-- a value by its parts -/
def mcells (k u : Int) (t : ByteArray) (e : Int) (n : Nat) (f : Nat → PackT) : List AV := [.lit (.int .i64 k), .lit (.int .u64 u), .lit (.string t), .lit (.int .i64 e), .ro 5 n (fun i => pcells (f i))]
/-- What a law of reading is given: a value, its forms, what stands behind it, how much is cut off. -/
def gcells (p : PackT) (fs : Int) (sb : Bool) (bh : List UInt8) (ct : Int) : List AV :=
  [.lit (.int .i64 p.kind), .lit (.int .u64 p.num), .lit (.string p.text), .lit (.int .i64 p.ext), .ro 5 p.n (fun j => p.kidc j), .lit (.int .u64 fs), .lit (.bool sb), .bts bh, .lit (.int .i64 ct)]
/-- What is known of the package-level variables: errors of some type. -/
def gE (u0 u1 u2 : Nat) : Env := fun g => match g with
  | 0 => some [.ifc u0 .dead]
  | 1 => some [.ifc u1 .dead]
  | 2 => some [.ifc u2 .dead]
  | _ => none
/-- One of them alone. -/
def gS (u0 : Nat) : Env := fun g => match g with
  | 0 => some [.ifc u0 .dead]
  | _ => none
end Go.Ax
