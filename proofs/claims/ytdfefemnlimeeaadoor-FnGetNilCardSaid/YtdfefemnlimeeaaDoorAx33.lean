/-
  An abstract machine for Go functions (part 33): small helps for the runs with named truths.
-/
import Derived.Test.YtdfefemnlimeeaaDoorAx32
namespace Go.Ax
theorem u8ok (n : Int) : (0 : Int) ≤ IntKind.u8.wrap n ∧ IntKind.u8.wrap n < (256 : Int) := by rw [wrapU8]; omega

theorem andL {a b : Bool} (h : (a && b) = true) : a = true := by cases a <;> simp_all

def nthP : List Prop → Nat → Prop
  | [], _ => True
  | p :: _, 0 => p
  | _ :: l, k + 1 => nthP l k

/-- One of the conditions. -/
theorem getP : ∀ {l : List Prop} (k : Nat), AllP l → nthP l k
  | [], _, _ => trivial
  | _ :: _, 0, h => h.1
  | _ :: _, k + 1, h => getP k h.2
end Go.Ax
