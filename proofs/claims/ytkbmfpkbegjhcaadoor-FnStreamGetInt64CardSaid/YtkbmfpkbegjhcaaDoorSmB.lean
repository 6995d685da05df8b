/-
  What a Reader over a stream reads: numbers without a sign.
-/
import Derived.Test.YtkbmfpkbegjhcaaDoorSm6
import Derived.Test.YtkbmfpkbegjhcaaDoorSm8
import Derived.Test.YtkbmfpkbegjhcaaDoorSm9
import Derived.Test.YtkbmfpkbegjhcaaDoorSmA
set_option linter.unusedVariables false
set_option linter.unusedSimpArgs false
set_option maxRecDepth 100000
namespace Go.Ax
open Go.Proofs

/-- A Reader's operation takes these bytes off a stream: with a buffer; without. -/
def GetsO (f : FuncId) (ret : AV) (a : List UInt8) : Prop :=
  ∀ (T z g o r l p : Nat) (bf dat t : List UInt8), Held T z g o r l p bf dat (a ++ t) →
    ∃ o2 r2 l2 p2 bf2, Held T z g o2 r2 l2 p2 bf2 dat t ∧ A0 f [.ptr 0 0] (rowsRO z g o r l p bf dat) ret (rowsRP z g o2 r2 l2 p2 bf2 dat)
def GetsN (f : FuncId) (ret : AV) (a : List UInt8) : Prop :=
  ∀ (T z g : Nat) (t : List UInt8), (a ++ t).length ≤ T → T ≤ 1000000000000 → 16 ≤ z ∧ z ≤ 65536 → 1 ≤ g ∧ g ≤ 65536 →
    ∃ o2 r2 l2 p2 bf2, Held T z g o2 r2 l2 p2 bf2 (a ++ t) t ∧ A0 f [.ptr 0 0] (rowsRN z g 0 (a ++ t).length (a ++ t)) ret (rowsRQ z g o2 r2 l2 p2 bf2 (a ++ t))

theorem isFix (b : UInt8) (h : b.toNat < 128) : A0 101 [u8 b] [] (bL true) [] :=
  (q101 b.toNat (by simp [AllP])).cast rfl rfl (by
    have : ((b.toNat : Int).fdiv 128) = 0 := by rw [Int.fdiv_eq_ediv_of_nonneg _ (by omega)]; omega
    rw [this]; rfl) rfl
theorem notFix (v : Int) (h : 128 ≤ v ∧ v < 256) : A0 101 [.lit (.int .u8 v)] [] (bL false) [] :=
  (q101 v (by simp [AllP])).cast rfl rfl (by
    have : (v.fdiv 128) = 1 := by rw [Int.fdiv_eq_ediv_of_nonneg _ (by omega)]; omega
    rw [this]; rfl) rfl

/-- The bytes at a place, one by one. -/
theorem byte_at {bf : List UInt8} {p n : Nat} {a : List UInt8} (h : (bf.drop p).take n = a) (i : Nat) (hi : i < a.length) (hn : a.length = n) : bf.getD (p + i) 0 = a.getD i 0 := by
  subst h
  simp only [List.getD, List.getElem?_take, List.getElem?_drop]
  rw [if_pos (by omega)]

/-! ### forms -/
end Go.Ax
