/-
  Values of MessagePack written in chosen forms: the heads of extensions, integers.
-/
import Derived.Test.YtkbmfpkbegjhcaaDoorSgH
import Derived.Test.YtkbmfpkbegjhcaaDoorSgF
import Derived.Test.YtkbmfpkbegjhcaaDoorSgE
set_option linter.unusedVariables false
set_option linter.unusedSimpArgs false
set_option maxRecDepth 100000
namespace Go.Ax
open Go.Proofs

/-- What the head of an extension may be. -/
def ExtOut (n kd : Int) (out : List UInt8) : Prop :=
  (∃ i : Nat, i < 5 ∧ n = 2 ^ i ∧ out = [UInt8.ofNat (212 + i), byteI kd]) ∨ ∃ p ∈ sizesOf n [(199, 1), (200, 2), (201, 4)], out = headL p.1 p.2 n ++ [byteI kd]

/-- What an integer may be. -/
def IntOut (u : Int) (sg : Bool) (out : List UInt8) : Prop :=
  if sg = true ∧ 9223372036854775808 ≤ u then
    (18446744073709551584 ≤ u ∧ out = [byteI u]) ∨ ∃ i s : Nat, (i, s) ∈ [(0, 1), (1, 2), (2, 4), (3, 8)] ∧ 18446744073709551616 - 2 ^ (8 * s - 1) ≤ u ∧ out = UInt8.ofNat (208 + i) :: bigL u s
  else
    (u < 128 ∧ out = [byteI u]) ∨ (∃ p ∈ sizesOf u [(204, 1), (205, 2), (206, 4), (207, 8)], out = headL p.1 p.2 u) ∨
    ∃ i s : Nat, (i, s) ∈ [(0, 1), (1, 2), (2, 4), (3, 8)] ∧ u < 2 ^ (8 * s - 1) ∧ out = UInt8.ofNat (208 + i) :: bigL u s

end Go.Ax
