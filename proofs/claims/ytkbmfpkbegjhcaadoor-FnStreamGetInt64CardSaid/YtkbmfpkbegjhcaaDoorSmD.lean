/-
  What a Reader over a stream reads: a number of four bytes without a sign.
-/
import Derived.Test.YtkbmfpkbegjhcaaDoorSmB
import Derived.Test.YtkbmfpkbegjhcaaDoorSmC
set_option linter.unusedVariables false
set_option linter.unusedSimpArgs false
set_option maxRecDepth 100000
set_option maxHeartbeats 0
namespace Go.Ax
open Go.Proofs
def m110 (x1 x2 x3 x4 : UInt8) : Int := IntKind.u32.wrap ((BitVec.ofInt IntKind.u32.bits (IntKind.u32.wrap ((BitVec.ofInt IntKind.u32.bits (IntKind.u32.wrap ((BitVec.ofInt IntKind.u32.bits (IntKind.u32.wrap (IntKind.u32.wrap (x1.toNat : Int) * (2 : Int) ^ Min.min (Int.toNat (24 : Int)) IntKind.u32.bits)) ||| BitVec.ofInt IntKind.u32.bits (IntKind.u32.wrap (IntKind.u32.wrap (x2.toNat : Int) * (2 : Int) ^ Min.min (Int.toNat (16 : Int)) IntKind.u32.bits))).toNat : Int)) ||| BitVec.ofInt IntKind.u32.bits (IntKind.u32.wrap (IntKind.u32.wrap (x3.toNat : Int) * (2 : Int) ^ Min.min (Int.toNat (8 : Int)) IntKind.u32.bits))).toNat : Int)) ||| BitVec.ofInt IntKind.u32.bits (IntKind.u32.wrap (x4.toNat : Int))).toNat : Int)
theorem m110_eq (x1 x2 x3 x4 : UInt8) : m110 x1 x2 x3 x4 = IntKind.u32.wrap (((((x1.toNat) * 256 + x2.toNat) * 256 + x3.toNat) * 256 + x4.toNat : Nat) : Int) := by
  have h1 := x1.toNat_lt
  have h2 := x2.toNat_lt
  have h3 := x3.toNat_lt
  have h4 := x4.toNat_lt
  unfold m110
  have q : ∀ x : UInt8, IntKind.u32.wrap (x.toNat : Int) = x.toNat := fun x => by have := x.toNat_lt; simp only [IntKind.wrap, IntKind.bits, IntKind.signed]; simp; omega
  have m1 : (x1.toNat : Int) * (2 : Int) ^ Min.min (Int.toNat (24 : Int)) IntKind.u32.bits = ((x1.toNat * 16777216 : Nat) : Int) := by
    have : (2 : Int) ^ Min.min (Int.toNat (24 : Int)) IntKind.u32.bits = 16777216 := by decide
    rw [this]; omega
  have m2 : (x2.toNat : Int) * (2 : Int) ^ Min.min (Int.toNat (16 : Int)) IntKind.u32.bits = ((x2.toNat * 65536 : Nat) : Int) := by
    have : (2 : Int) ^ Min.min (Int.toNat (16 : Int)) IntKind.u32.bits = 65536 := by decide
    rw [this]; omega
  have m3 : (x3.toNat : Int) * (2 : Int) ^ Min.min (Int.toNat (8 : Int)) IntKind.u32.bits = ((x3.toNat * 256 : Nat) : Int) := by
    have : (2 : Int) ^ Min.min (Int.toNat (8 : Int)) IntKind.u32.bits = 256 := by decide
    rw [this]; omega
  simp only [q, m1, m2, m3, ofIntW IntKind.u32]
  have e2 := orHi IntKind.u32.bits (x1.toNat) (x2.toNat * 65536) 24 16777216 4294967296 (by decide +kernel) (by decide +kernel) (by omega) (by omega)
  have c2 : (x1.toNat) * 16777216 + x2.toNat * 65536 = ((x1.toNat) * 256 + x2.toNat) * 65536 := cHi _ _ _ _ (by decide +kernel)
  rw [e2, c2]
  have e3 := orHi IntKind.u32.bits ((x1.toNat) * 256 + x2.toNat) (x3.toNat * 256) 16 65536 4294967296 (by decide +kernel) (by decide +kernel) (by omega) (by omega)
  have c3 : ((x1.toNat) * 256 + x2.toNat) * 65536 + x3.toNat * 256 = (((x1.toNat) * 256 + x2.toNat) * 256 + x3.toNat) * 256 := cHi _ _ _ _ (by decide +kernel)
  rw [e3, c3]
  have e4 := orHi IntKind.u32.bits (((x1.toNat) * 256 + x2.toNat) * 256 + x3.toNat) (x4.toNat) 8 256 4294967296 (by decide +kernel) (by decide +kernel) (by omega) (by omega)
  rw [e4]
theorem getM110 (bf : List UInt8) (p : Nat) (h : p + 4 < bf.length) : A0 110 [.own 0 p 5 none] [.bytes 5 bf] (.lit (.int .u32 (m110 (bf.getD (p + 1) 0) (bf.getD (p + 2) 0) (bf.getD (p + 3) 0) (bf.getD (p + 4) 0)))) [.bytes 5 bf] :=
  (g110 bf p (by simp only [AllP]; repeat' (first | exact trivial | with_reducible apply And.intro | omega))).cast rfl rfl (by kernel_rfl) rfl
def m112 (x1 x2 x3 x4 x5 x6 x7 x8 : UInt8) : Int := IntKind.u64.wrap ((BitVec.ofInt IntKind.u64.bits (IntKind.u64.wrap ((BitVec.ofInt IntKind.u64.bits (IntKind.u64.wrap ((BitVec.ofInt IntKind.u64.bits (IntKind.u64.wrap ((BitVec.ofInt IntKind.u64.bits (IntKind.u64.wrap ((BitVec.ofInt IntKind.u64.bits (IntKind.u64.wrap ((BitVec.ofInt IntKind.u64.bits (IntKind.u64.wrap ((BitVec.ofInt IntKind.u64.bits (IntKind.u64.wrap (IntKind.u64.wrap (x1.toNat : Int) * (2 : Int) ^ Min.min (Int.toNat (56 : Int)) IntKind.u64.bits)) ||| BitVec.ofInt IntKind.u64.bits (IntKind.u64.wrap (IntKind.u64.wrap (x2.toNat : Int) * (2 : Int) ^ Min.min (Int.toNat (48 : Int)) IntKind.u64.bits))).toNat : Int)) ||| BitVec.ofInt IntKind.u64.bits (IntKind.u64.wrap (IntKind.u64.wrap (x3.toNat : Int) * (2 : Int) ^ Min.min (Int.toNat (40 : Int)) IntKind.u64.bits))).toNat : Int)) ||| BitVec.ofInt IntKind.u64.bits (IntKind.u64.wrap (IntKind.u64.wrap (x4.toNat : Int) * (2 : Int) ^ Min.min (Int.toNat (32 : Int)) IntKind.u64.bits))).toNat : Int)) ||| BitVec.ofInt IntKind.u64.bits (IntKind.u64.wrap (IntKind.u64.wrap (x5.toNat : Int) * (2 : Int) ^ Min.min (Int.toNat (24 : Int)) IntKind.u64.bits))).toNat : Int)) ||| BitVec.ofInt IntKind.u64.bits (IntKind.u64.wrap (IntKind.u64.wrap (x6.toNat : Int) * (2 : Int) ^ Min.min (Int.toNat (16 : Int)) IntKind.u64.bits))).toNat : Int)) ||| BitVec.ofInt IntKind.u64.bits (IntKind.u64.wrap (IntKind.u64.wrap (x7.toNat : Int) * (2 : Int) ^ Min.min (Int.toNat (8 : Int)) IntKind.u64.bits))).toNat : Int)) ||| BitVec.ofInt IntKind.u64.bits (IntKind.u64.wrap (x8.toNat : Int))).toNat : Int)
theorem m112_eq (x1 x2 x3 x4 x5 x6 x7 x8 : UInt8) : m112 x1 x2 x3 x4 x5 x6 x7 x8 = IntKind.u64.wrap (((((((((x1.toNat) * 256 + x2.toNat) * 256 + x3.toNat) * 256 + x4.toNat) * 256 + x5.toNat) * 256 + x6.toNat) * 256 + x7.toNat) * 256 + x8.toNat : Nat) : Int) := by
  have h1 := x1.toNat_lt
  have h2 := x2.toNat_lt
  have h3 := x3.toNat_lt
  have h4 := x4.toNat_lt
  have h5 := x5.toNat_lt
  have h6 := x6.toNat_lt
  have h7 := x7.toNat_lt
  have h8 := x8.toNat_lt
  unfold m112
  have q : ∀ x : UInt8, IntKind.u64.wrap (x.toNat : Int) = x.toNat := fun x => by have := x.toNat_lt; simp only [IntKind.wrap, IntKind.bits, IntKind.signed]; simp; omega
  have m1 : (x1.toNat : Int) * (2 : Int) ^ Min.min (Int.toNat (56 : Int)) IntKind.u64.bits = ((x1.toNat * 72057594037927936 : Nat) : Int) := by
    have : (2 : Int) ^ Min.min (Int.toNat (56 : Int)) IntKind.u64.bits = 72057594037927936 := by decide
    rw [this]; omega
  have m2 : (x2.toNat : Int) * (2 : Int) ^ Min.min (Int.toNat (48 : Int)) IntKind.u64.bits = ((x2.toNat * 281474976710656 : Nat) : Int) := by
    have : (2 : Int) ^ Min.min (Int.toNat (48 : Int)) IntKind.u64.bits = 281474976710656 := by decide
    rw [this]; omega
  have m3 : (x3.toNat : Int) * (2 : Int) ^ Min.min (Int.toNat (40 : Int)) IntKind.u64.bits = ((x3.toNat * 1099511627776 : Nat) : Int) := by
    have : (2 : Int) ^ Min.min (Int.toNat (40 : Int)) IntKind.u64.bits = 1099511627776 := by decide
    rw [this]; omega
  have m4 : (x4.toNat : Int) * (2 : Int) ^ Min.min (Int.toNat (32 : Int)) IntKind.u64.bits = ((x4.toNat * 4294967296 : Nat) : Int) := by
    have : (2 : Int) ^ Min.min (Int.toNat (32 : Int)) IntKind.u64.bits = 4294967296 := by decide
    rw [this]; omega
  have m5 : (x5.toNat : Int) * (2 : Int) ^ Min.min (Int.toNat (24 : Int)) IntKind.u64.bits = ((x5.toNat * 16777216 : Nat) : Int) := by
    have : (2 : Int) ^ Min.min (Int.toNat (24 : Int)) IntKind.u64.bits = 16777216 := by decide
    rw [this]; omega
  have m6 : (x6.toNat : Int) * (2 : Int) ^ Min.min (Int.toNat (16 : Int)) IntKind.u64.bits = ((x6.toNat * 65536 : Nat) : Int) := by
    have : (2 : Int) ^ Min.min (Int.toNat (16 : Int)) IntKind.u64.bits = 65536 := by decide
    rw [this]; omega
  have m7 : (x7.toNat : Int) * (2 : Int) ^ Min.min (Int.toNat (8 : Int)) IntKind.u64.bits = ((x7.toNat * 256 : Nat) : Int) := by
    have : (2 : Int) ^ Min.min (Int.toNat (8 : Int)) IntKind.u64.bits = 256 := by decide
    rw [this]; omega
  simp only [q, m1, m2, m3, m4, m5, m6, m7, ofIntW IntKind.u64]
  have e2 := orHi IntKind.u64.bits (x1.toNat) (x2.toNat * 281474976710656) 56 72057594037927936 18446744073709551616 (by decide +kernel) (by decide +kernel) (by omega) (by omega)
  have c2 : (x1.toNat) * 72057594037927936 + x2.toNat * 281474976710656 = ((x1.toNat) * 256 + x2.toNat) * 281474976710656 := cHi _ _ _ _ (by decide +kernel)
  rw [e2, c2]
  have e3 := orHi IntKind.u64.bits ((x1.toNat) * 256 + x2.toNat) (x3.toNat * 1099511627776) 48 281474976710656 18446744073709551616 (by decide +kernel) (by decide +kernel) (by omega) (by omega)
  have c3 : ((x1.toNat) * 256 + x2.toNat) * 281474976710656 + x3.toNat * 1099511627776 = (((x1.toNat) * 256 + x2.toNat) * 256 + x3.toNat) * 1099511627776 := cHi _ _ _ _ (by decide +kernel)
  rw [e3, c3]
  have e4 := orHi IntKind.u64.bits (((x1.toNat) * 256 + x2.toNat) * 256 + x3.toNat) (x4.toNat * 4294967296) 40 1099511627776 18446744073709551616 (by decide +kernel) (by decide +kernel) (by omega) (by omega)
  have c4 : (((x1.toNat) * 256 + x2.toNat) * 256 + x3.toNat) * 1099511627776 + x4.toNat * 4294967296 = ((((x1.toNat) * 256 + x2.toNat) * 256 + x3.toNat) * 256 + x4.toNat) * 4294967296 := cHi _ _ _ _ (by decide +kernel)
  rw [e4, c4]
  have e5 := orHi IntKind.u64.bits ((((x1.toNat) * 256 + x2.toNat) * 256 + x3.toNat) * 256 + x4.toNat) (x5.toNat * 16777216) 32 4294967296 18446744073709551616 (by decide +kernel) (by decide +kernel) (by omega) (by omega)
  have c5 : ((((x1.toNat) * 256 + x2.toNat) * 256 + x3.toNat) * 256 + x4.toNat) * 4294967296 + x5.toNat * 16777216 = (((((x1.toNat) * 256 + x2.toNat) * 256 + x3.toNat) * 256 + x4.toNat) * 256 + x5.toNat) * 16777216 := cHi _ _ _ _ (by decide +kernel)
  rw [e5, c5]
  have e6 := orHi IntKind.u64.bits (((((x1.toNat) * 256 + x2.toNat) * 256 + x3.toNat) * 256 + x4.toNat) * 256 + x5.toNat) (x6.toNat * 65536) 24 16777216 18446744073709551616 (by decide +kernel) (by decide +kernel) (by omega) (by omega)
  have c6 : (((((x1.toNat) * 256 + x2.toNat) * 256 + x3.toNat) * 256 + x4.toNat) * 256 + x5.toNat) * 16777216 + x6.toNat * 65536 = ((((((x1.toNat) * 256 + x2.toNat) * 256 + x3.toNat) * 256 + x4.toNat) * 256 + x5.toNat) * 256 + x6.toNat) * 65536 := cHi _ _ _ _ (by decide +kernel)
  rw [e6, c6]
  have e7 := orHi IntKind.u64.bits ((((((x1.toNat) * 256 + x2.toNat) * 256 + x3.toNat) * 256 + x4.toNat) * 256 + x5.toNat) * 256 + x6.toNat) (x7.toNat * 256) 16 65536 18446744073709551616 (by decide +kernel) (by decide +kernel) (by omega) (by omega)
  have c7 : ((((((x1.toNat) * 256 + x2.toNat) * 256 + x3.toNat) * 256 + x4.toNat) * 256 + x5.toNat) * 256 + x6.toNat) * 65536 + x7.toNat * 256 = (((((((x1.toNat) * 256 + x2.toNat) * 256 + x3.toNat) * 256 + x4.toNat) * 256 + x5.toNat) * 256 + x6.toNat) * 256 + x7.toNat) * 256 := cHi _ _ _ _ (by decide +kernel)
  rw [e7, c7]
  have e8 := orHi IntKind.u64.bits (((((((x1.toNat) * 256 + x2.toNat) * 256 + x3.toNat) * 256 + x4.toNat) * 256 + x5.toNat) * 256 + x6.toNat) * 256 + x7.toNat) (x8.toNat) 8 256 18446744073709551616 (by decide +kernel) (by decide +kernel) (by omega) (by omega)
  rw [e8]
theorem getM112 (bf : List UInt8) (p : Nat) (h : p + 8 < bf.length) : A0 112 [.own 0 p 9 none] [.bytes 5 bf] (.lit (.int .u64 (m112 (bf.getD (p + 1) 0) (bf.getD (p + 2) 0) (bf.getD (p + 3) 0) (bf.getD (p + 4) 0) (bf.getD (p + 5) 0) (bf.getD (p + 6) 0) (bf.getD (p + 7) 0) (bf.getD (p + 8) 0)))) [.bytes 5 bf] :=
  (g112 bf p (by simp only [AllP]; repeat' (first | exact trivial | with_reducible apply And.intro | omega))).cast rfl rfl (by kernel_rfl) rfl
end Go.Ax
