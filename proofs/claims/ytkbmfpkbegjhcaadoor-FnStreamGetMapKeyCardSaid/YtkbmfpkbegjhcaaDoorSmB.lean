/-
  What a Reader over a stream reads: numbers without a sign.
-/
import Derived.Test.YtkbmfpkbegjhcaaDoorSm6
import Derived.Test.YtkbmfpkbegjhcaaDoorSm8
import Derived.Test.YtkbmfpkbegjhcaaDoorSm9
import Derived.Test.YtkbmfpkbegjhcaaDoorSmA
set_option linter.unusedVariables false
set_option linter.unusedSimpArgs false
set_option maxRecDepth 100000
namespace Go.Ax
open Go.Proofs

/-- A Reader's operation takes these bytes off a stream: with a buffer; without. -/
def GetsO (f : FuncId) (ret : AV) (a : List UInt8) : Prop :=
  ∀ (T z g o r l p : Nat) (bf dat t : List UInt8), Held T z g o r l p bf dat (a ++ t) →
    ∃ o2 r2 l2 p2 bf2, Held T z g o2 r2 l2 p2 bf2 dat t ∧ A0 f [.ptr 0 0] (rowsRO z g o r l p bf dat) ret (rowsRP z g o2 r2 l2 p2 bf2 dat)
def GetsN (f : FuncId) (ret : AV) (a : List UInt8) : Prop :=
  ∀ (T z g : Nat) (t : List UInt8), (a ++ t).length ≤ T → T ≤ 1000000000000 → 16 ≤ z ∧ z ≤ 65536 → 1 ≤ g ∧ g ≤ 65536 →
    ∃ o2 r2 l2 p2 bf2, Held T z g o2 r2 l2 p2 bf2 (a ++ t) t ∧ A0 f [.ptr 0 0] (rowsRN z g 0 (a ++ t).length (a ++ t)) ret (rowsRQ z g o2 r2 l2 p2 bf2 (a ++ t))

/-- The bytes at a place, one by one. -/
theorem byte_at {bf : List UInt8} {p n : Nat} {a : List UInt8} (h : (bf.drop p).take n = a) (i : Nat) (hi : i < a.length) (hn : a.length = n) : bf.getD (p + i) 0 = a.getD i 0 := by
  subst h
  simp only [List.getD, List.getElem?_take, List.getElem?_drop]
  rw [if_pos (by omega)]

/-! ### forms -/
end Go.Ax
