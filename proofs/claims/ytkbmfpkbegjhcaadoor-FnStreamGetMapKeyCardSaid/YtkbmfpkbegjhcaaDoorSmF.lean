/-
  What a Reader over a stream reads: bytes; the takers of bytes and of numbers.
-/
import Derived.Test.YtkbmfpkbegjhcaaDoorSmD
import Derived.Test.YtkbmfpkbegjhcaaDoorSmE
set_option linter.unusedVariables false
set_option linter.unusedSimpArgs false
set_option maxRecDepth 100000
namespace Go.Ax
open Go.Proofs
theorem GetsO.byte {v : Nat} {a : List UInt8} (hv : v < 256) (h : GetsO 70 (.tup [uL v, nI]) a) : GetsO 73 (.tup [.lit (.int .u8 v), nI]) a := fun T z g o r l p bf dat t S => by
  obtain ⟨o2, r2, l2, p2, bf2, S2, C⟩ := h T z g o r l p bf dat t S
  refine ⟨o2, r2, l2, p2, bf2, S2, (rd73O z g o r l p o2 r2 l2 p2 bf bf2 dat v ?_).cast rfl rfl ?_ rfl⟩
  · have d : decide ((v : Int) > 255) = false := by simp; omega
    simp only [AllP, leAll, d]
    repeat' (first | exact trivial | exact rfl | exact C | exact Le.refl _ | exact RowLe.refl _ | with_reducible apply And.intro)
  · have w : IntKind.u8.wrap (v : Int) = v := by rw [wrapU8]; omega
    rw [w]
theorem GetsN.byte {v : Nat} {a : List UInt8} (hv : v < 256) (h : GetsN 70 (.tup [uL v, nI]) a) : GetsN 73 (.tup [.lit (.int .u8 v), nI]) a := fun T z g t h1 h2 h3 h4 => by
  obtain ⟨o2, r2, l2, p2, bf2, S2, C⟩ := h T z g t h1 h2 h3 h4
  refine ⟨o2, r2, l2, p2, bf2, S2, (rd73N z g 0 (a ++ t).length o2 r2 l2 p2 bf2 (a ++ t) v ?_).cast rfl rfl ?_ rfl⟩
  · have d : decide ((v : Int) > 255) = false := by simp; omega
    simp only [AllP, leAll, d]
    repeat' (first | exact trivial | exact rfl | exact C | exact Le.refl _ | exact RowLe.refl _ | with_reducible apply And.intro)
  · have w : IntKind.u8.wrap (v : Int) = v := by rw [wrapU8]; omega
    rw [w]
end Go.Ax
