/-
  What a Reader over a stream reads: a number without a sign, in whatever form it is written.
-/
import Derived.Test.YtkbmfpkbegjhcaaDoorSmF
import Derived.Test.YtkbmfpkbegjhcaaDoorSgI
set_option linter.unusedVariables false
set_option linter.unusedSimpArgs false
set_option maxRecDepth 100000
namespace Go.Ax
open Go.Proofs
theorem bigL1 (u : Int) : bigL u 1 = [byteI u] := by simp [bigL]
theorem bigL2 (u : Int) : bigL u 2 = [byteI (u / 256), byteI u] := by simp [bigL]
theorem bigL4 (u : Int) : bigL u 4 = [byteI (u / 16777216), byteI (u / 65536), byteI (u / 256), byteI u] := by simp [bigL]
theorem byteZ (x : Int) : ((byteI x).toNat : Int) = x % 256 := by rw [byteI_nat]; omega
theorem vb2 (u : Int) (h : 0 ≤ u) : (((byteI (u / 256)).toNat * 256 + (byteI u).toNat : Nat) : Int) = u % 65536 := by push_cast; rw [byteZ, byteZ]; omega
theorem vb4 (u : Int) (h : 0 ≤ u) : (((((byteI (u / 16777216)).toNat * 256 + (byteI (u / 65536)).toNat) * 256 + (byteI (u / 256)).toNat) * 256 + (byteI u).toNat : Nat) : Int) = u % 4294967296 := by
  push_cast; rw [byteZ, byteZ, byteZ, byteZ]; omega
/-- Both ways: with a buffer, without one. -/
def Gets (f : FuncId) (ret : AV) (a : List UInt8) : Prop := GetsO f ret a ∧ GetsN f ret a

theorem fitB_lt {u s : Int} (hs : ¬ 8 ≤ s) (h : fitB u s = true) : u < 256 ^ s.toNat := by
  simp only [fitB, Bool.or_eq_true, decide_eq_true_eq] at h
  exact h.resolve_left hs

end Go.Ax
