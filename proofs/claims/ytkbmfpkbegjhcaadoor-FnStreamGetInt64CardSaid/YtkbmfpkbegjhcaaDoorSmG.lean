/-
  What a Reader over a stream reads: a number without a sign, in whatever form it is written.
-/
import Derived.Test.YtkbmfpkbegjhcaaDoorSmF
import Derived.Test.YtkbmfpkbegjhcaaDoorSgI
set_option linter.unusedVariables false
set_option linter.unusedSimpArgs false
set_option maxRecDepth 100000
namespace Go.Ax
open Go.Proofs
theorem bigL1 (u : Int) : bigL u 1 = [byteI u] := by simp [bigL]
theorem bigL2 (u : Int) : bigL u 2 = [byteI (u / 256), byteI u] := by simp [bigL]
theorem bigL4 (u : Int) : bigL u 4 = [byteI (u / 16777216), byteI (u / 65536), byteI (u / 256), byteI u] := by simp [bigL]
theorem bigL8 (u : Int) : bigL u 8 = [byteI (u / 72057594037927936), byteI (u / 281474976710656), byteI (u / 1099511627776), byteI (u / 4294967296), byteI (u / 16777216), byteI (u / 65536), byteI (u / 256), byteI u] := by simp [bigL]
theorem byteZ (x : Int) : ((byteI x).toNat : Int) = x % 256 := by rw [byteI_nat]; omega
theorem vb2 (u : Int) (h : 0 ≤ u) : (((byteI (u / 256)).toNat * 256 + (byteI u).toNat : Nat) : Int) = u % 65536 := by push_cast; rw [byteZ, byteZ]; omega
theorem vb4 (u : Int) (h : 0 ≤ u) : (((((byteI (u / 16777216)).toNat * 256 + (byteI (u / 65536)).toNat) * 256 + (byteI (u / 256)).toNat) * 256 + (byteI u).toNat : Nat) : Int) = u % 4294967296 := by
  push_cast; rw [byteZ, byteZ, byteZ, byteZ]; omega
theorem vb8 (u : Int) (h : 0 ≤ u) (h1 : u < 18446744073709551616) : (((((((((byteI (u / 72057594037927936)).toNat * 256 + (byteI (u / 281474976710656)).toNat) * 256 + (byteI (u / 1099511627776)).toNat) * 256 + (byteI (u / 4294967296)).toNat) * 256 + (byteI (u / 16777216)).toNat) * 256 + (byteI (u / 65536)).toNat) * 256 + (byteI (u / 256)).toNat) * 256 + (byteI u).toNat : Nat) : Int) = u := by
  push_cast; rw [byteZ, byteZ, byteZ, byteZ, byteZ, byteZ, byteZ, byteZ]
  have k1 : u / 65536 = u / 256 / 256 := by omega
  have k2 : u / 16777216 = u / 256 / 256 / 256 := by omega
  have k3 : u / 4294967296 = u / 256 / 256 / 256 / 256 := by omega
  have k4 : u / 1099511627776 = u / 256 / 256 / 256 / 256 / 256 := by omega
  have k5 : u / 281474976710656 = u / 256 / 256 / 256 / 256 / 256 / 256 := by omega
  have k6 : u / 72057594037927936 = u / 256 / 256 / 256 / 256 / 256 / 256 / 256 := by omega
  rw [k1, k2, k3, k4, k5, k6]
  have f0 : 256 * (u / 256) + u % 256 = u := Int.mul_ediv_add_emod u 256
  generalize hA : u / 256 = A at *
  generalize u % 256 = r0 at *
  have f1 : 256 * (A / 256) + A % 256 = A := Int.mul_ediv_add_emod A 256
  generalize A / 256 = B at *
  generalize A % 256 = r1 at *
  have f2 : 256 * (B / 256) + B % 256 = B := Int.mul_ediv_add_emod B 256
  generalize B / 256 = C at *
  generalize B % 256 = r2 at *
  have f3 : 256 * (C / 256) + C % 256 = C := Int.mul_ediv_add_emod C 256
  generalize C / 256 = D at *
  generalize C % 256 = r3 at *
  have f4 : 256 * (D / 256) + D % 256 = D := Int.mul_ediv_add_emod D 256
  generalize D / 256 = E at *
  generalize D % 256 = r4 at *
  have f5 : 256 * (E / 256) + E % 256 = E := Int.mul_ediv_add_emod E 256
  generalize E / 256 = F at *
  generalize E % 256 = r5 at *
  have f6 : 256 * (F / 256) + F % 256 = F := Int.mul_ediv_add_emod F 256
  generalize F / 256 = G at *
  generalize F % 256 = r6 at *
  have hG : G % 256 = G := by omega
  rw [hG]
  omega

/-- Both ways: with a buffer, without one. -/
def Gets (f : FuncId) (ret : AV) (a : List UInt8) : Prop := GetsO f ret a ∧ GetsN f ret a

theorem fitB_lt {u s : Int} (hs : ¬ 8 ≤ s) (h : fitB u s = true) : u < 256 ^ s.toNat := by
  simp only [fitB, Bool.or_eq_true, decide_eq_true_eq] at h
  exact h.resolve_left hs

end Go.Ax
