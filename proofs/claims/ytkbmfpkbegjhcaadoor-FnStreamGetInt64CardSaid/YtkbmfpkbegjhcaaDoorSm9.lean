/-
  Numbers of two, four and eight bytes behind a first byte, as the package reads them out of a buffer's row.
-/
import Derived.Test.YtkbmfpkbegjhcaaDoorSm5
set_option linter.unusedVariables false
set_option linter.unusedSimpArgs false
set_option maxRecDepth 100000
set_option maxHeartbeats 0
namespace Go.Ax
open Go.Proofs
theorem ofIntW (k : IntKind) (n : Int) : BitVec.ofInt k.bits (k.wrap n) = BitVec.ofInt k.bits n := by
  cases k <;> (apply BitVec.eq_of_toNat_eq; simp only [BitVec.toNat_ofInt, IntKind.wrap, IntKind.bits, IntKind.signed]; simp; try omega)
theorem cHi (A b S Sp : Nat) (h : Sp = 256 * S) : A * Sp + b * S = (A * 256 + b) * S := by subst h; rw [Nat.add_mul, Nat.mul_assoc]
theorem orHi (B A b s S D : Nat) (hS : S = 2 ^ s) (hD : 2 ^ B = D) (hb : b < S) (h : A * S + b < D) : ((BitVec.ofInt B ((A * S : Nat) : Int)) ||| (BitVec.ofInt B (b : Int))).toNat = A * S + b := by
  subst hS; subst hD
  rw [BitVec.toNat_or, BitVec.toNat_ofInt, BitVec.toNat_ofInt]
  have e1 : (((A * 2 ^ s : Nat) : Int) % ((2 ^ B : Nat) : Int)).toNat = A * 2 ^ s := by
    rw [← Int.natCast_emod, Int.toNat_natCast, Nat.mod_eq_of_lt (by omega)]
  have e2 : ((b : Int) % ((2 ^ B : Nat) : Int)).toNat = b := by
    rw [← Int.natCast_emod, Int.toNat_natCast, Nat.mod_eq_of_lt (by omega)]
  rw [e1, e2, ← Nat.shiftLeft_eq, ← Nat.shiftLeft_add_eq_or_of_lt hb, Nat.shiftLeft_eq]
def m108 (x1 x2 : UInt8) : Int := IntKind.u16.wrap ((BitVec.ofInt IntKind.u16.bits (IntKind.u16.wrap (IntKind.u16.wrap (x1.toNat : Int) * (2 : Int) ^ Min.min (Int.toNat (8 : Int)) IntKind.u16.bits)) ||| BitVec.ofInt IntKind.u16.bits (IntKind.u16.wrap (x2.toNat : Int))).toNat : Int)
theorem m108_eq (x1 x2 : UInt8) : m108 x1 x2 = IntKind.u16.wrap (((x1.toNat) * 256 + x2.toNat : Nat) : Int) := by
  have h1 := x1.toNat_lt
  have h2 := x2.toNat_lt
  unfold m108
  have q : ∀ x : UInt8, IntKind.u16.wrap (x.toNat : Int) = x.toNat := fun x => by have := x.toNat_lt; simp only [IntKind.wrap, IntKind.bits, IntKind.signed]; simp; omega
  have m1 : (x1.toNat : Int) * (2 : Int) ^ Min.min (Int.toNat (8 : Int)) IntKind.u16.bits = ((x1.toNat * 256 : Nat) : Int) := by
    have : (2 : Int) ^ Min.min (Int.toNat (8 : Int)) IntKind.u16.bits = 256 := by decide
    rw [this]; omega
  simp only [q, m1, ofIntW IntKind.u16]
  have e2 := orHi IntKind.u16.bits (x1.toNat) (x2.toNat) 8 256 65536 (by decide +kernel) (by decide +kernel) (by omega) (by omega)
  rw [e2]
theorem getM108 (bf : List UInt8) (p : Nat) (h : p + 2 < bf.length) : A0 108 [.own 0 p 3 none] [.bytes 5 bf] (.lit (.int .u16 (m108 (bf.getD (p + 1) 0) (bf.getD (p + 2) 0)))) [.bytes 5 bf] :=
  (g108 bf p (by simp only [AllP]; repeat' (first | exact trivial | with_reducible apply And.intro | omega))).cast rfl rfl (by kernel_rfl) rfl
def m107 (x1 x2 : UInt8) : Int := IntKind.i16.wrap ((BitVec.ofInt IntKind.i16.bits (IntKind.i16.wrap (IntKind.i16.wrap (x1.toNat : Int) * (2 : Int) ^ Min.min (Int.toNat (8 : Int)) IntKind.i16.bits)) ||| BitVec.ofInt IntKind.i16.bits (IntKind.i16.wrap (x2.toNat : Int))).toNat : Int)
theorem m107_eq (x1 x2 : UInt8) : m107 x1 x2 = IntKind.i16.wrap (((x1.toNat) * 256 + x2.toNat : Nat) : Int) := by
  have h1 := x1.toNat_lt
  have h2 := x2.toNat_lt
  unfold m107
  have q : ∀ x : UInt8, IntKind.i16.wrap (x.toNat : Int) = x.toNat := fun x => by have := x.toNat_lt; simp only [IntKind.wrap, IntKind.bits, IntKind.signed]; simp; omega
  have m1 : (x1.toNat : Int) * (2 : Int) ^ Min.min (Int.toNat (8 : Int)) IntKind.i16.bits = ((x1.toNat * 256 : Nat) : Int) := by
    have : (2 : Int) ^ Min.min (Int.toNat (8 : Int)) IntKind.i16.bits = 256 := by decide
    rw [this]; omega
  simp only [q, m1, ofIntW IntKind.i16]
  have e2 := orHi IntKind.i16.bits (x1.toNat) (x2.toNat) 8 256 65536 (by decide +kernel) (by decide +kernel) (by omega) (by omega)
  rw [e2]
theorem getM107 (bf : List UInt8) (p : Nat) (h : p + 2 < bf.length) : A0 107 [.own 0 p 3 none] [.bytes 5 bf] (.lit (.int .i16 (m107 (bf.getD (p + 1) 0) (bf.getD (p + 2) 0)))) [.bytes 5 bf] :=
  (g107 bf p (by simp only [AllP]; repeat' (first | exact trivial | with_reducible apply And.intro | omega))).cast rfl rfl (by kernel_rfl) rfl
def m109 (x1 x2 x3 x4 : UInt8) : Int := IntKind.i32.wrap ((BitVec.ofInt IntKind.i32.bits (IntKind.i32.wrap ((BitVec.ofInt IntKind.i32.bits (IntKind.i32.wrap ((BitVec.ofInt IntKind.i32.bits (IntKind.i32.wrap (IntKind.i32.wrap (x1.toNat : Int) * (2 : Int) ^ Min.min (Int.toNat (24 : Int)) IntKind.i32.bits)) ||| BitVec.ofInt IntKind.i32.bits (IntKind.i32.wrap (IntKind.i32.wrap (x2.toNat : Int) * (2 : Int) ^ Min.min (Int.toNat (16 : Int)) IntKind.i32.bits))).toNat : Int)) ||| BitVec.ofInt IntKind.i32.bits (IntKind.i32.wrap (IntKind.i32.wrap (x3.toNat : Int) * (2 : Int) ^ Min.min (Int.toNat (8 : Int)) IntKind.i32.bits))).toNat : Int)) ||| BitVec.ofInt IntKind.i32.bits (IntKind.i32.wrap (x4.toNat : Int))).toNat : Int)
theorem m109_eq (x1 x2 x3 x4 : UInt8) : m109 x1 x2 x3 x4 = IntKind.i32.wrap (((((x1.toNat) * 256 + x2.toNat) * 256 + x3.toNat) * 256 + x4.toNat : Nat) : Int) := by
  have h1 := x1.toNat_lt
  have h2 := x2.toNat_lt
  have h3 := x3.toNat_lt
  have h4 := x4.toNat_lt
  unfold m109
  have q : ∀ x : UInt8, IntKind.i32.wrap (x.toNat : Int) = x.toNat := fun x => by have := x.toNat_lt; simp only [IntKind.wrap, IntKind.bits, IntKind.signed]; simp; omega
  have m1 : (x1.toNat : Int) * (2 : Int) ^ Min.min (Int.toNat (24 : Int)) IntKind.i32.bits = ((x1.toNat * 16777216 : Nat) : Int) := by
    have : (2 : Int) ^ Min.min (Int.toNat (24 : Int)) IntKind.i32.bits = 16777216 := by decide
    rw [this]; omega
  have m2 : (x2.toNat : Int) * (2 : Int) ^ Min.min (Int.toNat (16 : Int)) IntKind.i32.bits = ((x2.toNat * 65536 : Nat) : Int) := by
    have : (2 : Int) ^ Min.min (Int.toNat (16 : Int)) IntKind.i32.bits = 65536 := by decide
    rw [this]; omega
  have m3 : (x3.toNat : Int) * (2 : Int) ^ Min.min (Int.toNat (8 : Int)) IntKind.i32.bits = ((x3.toNat * 256 : Nat) : Int) := by
    have : (2 : Int) ^ Min.min (Int.toNat (8 : Int)) IntKind.i32.bits = 256 := by decide
    rw [this]; omega
  simp only [q, m1, m2, m3, ofIntW IntKind.i32]
  have e2 := orHi IntKind.i32.bits (x1.toNat) (x2.toNat * 65536) 24 16777216 4294967296 (by decide +kernel) (by decide +kernel) (by omega) (by omega)
  have c2 : (x1.toNat) * 16777216 + x2.toNat * 65536 = ((x1.toNat) * 256 + x2.toNat) * 65536 := cHi _ _ _ _ (by decide +kernel)
  rw [e2, c2]
  have e3 := orHi IntKind.i32.bits ((x1.toNat) * 256 + x2.toNat) (x3.toNat * 256) 16 65536 4294967296 (by decide +kernel) (by decide +kernel) (by omega) (by omega)
  have c3 : ((x1.toNat) * 256 + x2.toNat) * 65536 + x3.toNat * 256 = (((x1.toNat) * 256 + x2.toNat) * 256 + x3.toNat) * 256 := cHi _ _ _ _ (by decide +kernel)
  rw [e3, c3]
  have e4 := orHi IntKind.i32.bits (((x1.toNat) * 256 + x2.toNat) * 256 + x3.toNat) (x4.toNat) 8 256 4294967296 (by decide +kernel) (by decide +kernel) (by omega) (by omega)
  rw [e4]
theorem getM109 (bf : List UInt8) (p : Nat) (h : p + 4 < bf.length) : A0 109 [.own 0 p 5 none] [.bytes 5 bf] (.lit (.int .i32 (m109 (bf.getD (p + 1) 0) (bf.getD (p + 2) 0) (bf.getD (p + 3) 0) (bf.getD (p + 4) 0)))) [.bytes 5 bf] :=
  (g109 bf p (by simp only [AllP]; repeat' (first | exact trivial | with_reducible apply And.intro | omega))).cast rfl rfl (by kernel_rfl) rfl
def m111 (x1 x2 x3 x4 x5 x6 x7 x8 : UInt8) : Int := IntKind.i64.wrap ((BitVec.ofInt IntKind.i64.bits (IntKind.i64.wrap ((BitVec.ofInt IntKind.i64.bits (IntKind.i64.wrap ((BitVec.ofInt IntKind.i64.bits (IntKind.i64.wrap ((BitVec.ofInt IntKind.i64.bits (IntKind.i64.wrap ((BitVec.ofInt IntKind.i64.bits (IntKind.i64.wrap ((BitVec.ofInt IntKind.i64.bits (IntKind.i64.wrap ((BitVec.ofInt IntKind.i64.bits (IntKind.i64.wrap (IntKind.i64.wrap (x1.toNat : Int) * (2 : Int) ^ Min.min (Int.toNat (56 : Int)) IntKind.i64.bits)) ||| BitVec.ofInt IntKind.i64.bits (IntKind.i64.wrap (IntKind.i64.wrap (x2.toNat : Int) * (2 : Int) ^ Min.min (Int.toNat (48 : Int)) IntKind.i64.bits))).toNat : Int)) ||| BitVec.ofInt IntKind.i64.bits (IntKind.i64.wrap (IntKind.i64.wrap (x3.toNat : Int) * (2 : Int) ^ Min.min (Int.toNat (40 : Int)) IntKind.i64.bits))).toNat : Int)) ||| BitVec.ofInt IntKind.i64.bits (IntKind.i64.wrap (IntKind.i64.wrap (x4.toNat : Int) * (2 : Int) ^ Min.min (Int.toNat (32 : Int)) IntKind.i64.bits))).toNat : Int)) ||| BitVec.ofInt IntKind.i64.bits (IntKind.i64.wrap (IntKind.i64.wrap (x5.toNat : Int) * (2 : Int) ^ Min.min (Int.toNat (24 : Int)) IntKind.i64.bits))).toNat : Int)) ||| BitVec.ofInt IntKind.i64.bits (IntKind.i64.wrap (IntKind.i64.wrap (x6.toNat : Int) * (2 : Int) ^ Min.min (Int.toNat (16 : Int)) IntKind.i64.bits))).toNat : Int)) ||| BitVec.ofInt IntKind.i64.bits (IntKind.i64.wrap (IntKind.i64.wrap (x7.toNat : Int) * (2 : Int) ^ Min.min (Int.toNat (8 : Int)) IntKind.i64.bits))).toNat : Int)) ||| BitVec.ofInt IntKind.i64.bits (IntKind.i64.wrap (x8.toNat : Int))).toNat : Int)
theorem m111_eq (x1 x2 x3 x4 x5 x6 x7 x8 : UInt8) : m111 x1 x2 x3 x4 x5 x6 x7 x8 = IntKind.i64.wrap (((((((((x1.toNat) * 256 + x2.toNat) * 256 + x3.toNat) * 256 + x4.toNat) * 256 + x5.toNat) * 256 + x6.toNat) * 256 + x7.toNat) * 256 + x8.toNat : Nat) : Int) := by
  have h1 := x1.toNat_lt
  have h2 := x2.toNat_lt
  have h3 := x3.toNat_lt
  have h4 := x4.toNat_lt
  have h5 := x5.toNat_lt
  have h6 := x6.toNat_lt
  have h7 := x7.toNat_lt
  have h8 := x8.toNat_lt
  unfold m111
  have q : ∀ x : UInt8, IntKind.i64.wrap (x.toNat : Int) = x.toNat := fun x => by have := x.toNat_lt; simp only [IntKind.wrap, IntKind.bits, IntKind.signed]; simp; omega
  have m1 : (x1.toNat : Int) * (2 : Int) ^ Min.min (Int.toNat (56 : Int)) IntKind.i64.bits = ((x1.toNat * 72057594037927936 : Nat) : Int) := by
    have : (2 : Int) ^ Min.min (Int.toNat (56 : Int)) IntKind.i64.bits = 72057594037927936 := by decide
    rw [this]; omega
  have m2 : (x2.toNat : Int) * (2 : Int) ^ Min.min (Int.toNat (48 : Int)) IntKind.i64.bits = ((x2.toNat * 281474976710656 : Nat) : Int) := by
    have : (2 : Int) ^ Min.min (Int.toNat (48 : Int)) IntKind.i64.bits = 281474976710656 := by decide
    rw [this]; omega
  have m3 : (x3.toNat : Int) * (2 : Int) ^ Min.min (Int.toNat (40 : Int)) IntKind.i64.bits = ((x3.toNat * 1099511627776 : Nat) : Int) := by
    have : (2 : Int) ^ Min.min (Int.toNat (40 : Int)) IntKind.i64.bits = 1099511627776 := by decide
    rw [this]; omega
  have m4 : (x4.toNat : Int) * (2 : Int) ^ Min.min (Int.toNat (32 : Int)) IntKind.i64.bits = ((x4.toNat * 4294967296 : Nat) : Int) := by
    have : (2 : Int) ^ Min.min (Int.toNat (32 : Int)) IntKind.i64.bits = 4294967296 := by decide
    rw [this]; omega
  have m5 : (x5.toNat : Int) * (2 : Int) ^ Min.min (Int.toNat (24 : Int)) IntKind.i64.bits = ((x5.toNat * 16777216 : Nat) : Int) := by
    have : (2 : Int) ^ Min.min (Int.toNat (24 : Int)) IntKind.i64.bits = 16777216 := by decide
    rw [this]; omega
  have m6 : (x6.toNat : Int) * (2 : Int) ^ Min.min (Int.toNat (16 : Int)) IntKind.i64.bits = ((x6.toNat * 65536 : Nat) : Int) := by
    have : (2 : Int) ^ Min.min (Int.toNat (16 : Int)) IntKind.i64.bits = 65536 := by decide
    rw [this]; omega
  have m7 : (x7.toNat : Int) * (2 : Int) ^ Min.min (Int.toNat (8 : Int)) IntKind.i64.bits = ((x7.toNat * 256 : Nat) : Int) := by
    have : (2 : Int) ^ Min.min (Int.toNat (8 : Int)) IntKind.i64.bits = 256 := by decide
    rw [this]; omega
  simp only [q, m1, m2, m3, m4, m5, m6, m7, ofIntW IntKind.i64]
  have e2 := orHi IntKind.i64.bits (x1.toNat) (x2.toNat * 281474976710656) 56 72057594037927936 18446744073709551616 (by decide +kernel) (by decide +kernel) (by omega) (by omega)
  have c2 : (x1.toNat) * 72057594037927936 + x2.toNat * 281474976710656 = ((x1.toNat) * 256 + x2.toNat) * 281474976710656 := cHi _ _ _ _ (by decide +kernel)
  rw [e2, c2]
  have e3 := orHi IntKind.i64.bits ((x1.toNat) * 256 + x2.toNat) (x3.toNat * 1099511627776) 48 281474976710656 18446744073709551616 (by decide +kernel) (by decide +kernel) (by omega) (by omega)
  have c3 : ((x1.toNat) * 256 + x2.toNat) * 281474976710656 + x3.toNat * 1099511627776 = (((x1.toNat) * 256 + x2.toNat) * 256 + x3.toNat) * 1099511627776 := cHi _ _ _ _ (by decide +kernel)
  rw [e3, c3]
  have e4 := orHi IntKind.i64.bits (((x1.toNat) * 256 + x2.toNat) * 256 + x3.toNat) (x4.toNat * 4294967296) 40 1099511627776 18446744073709551616 (by decide +kernel) (by decide +kernel) (by omega) (by omega)
  have c4 : (((x1.toNat) * 256 + x2.toNat) * 256 + x3.toNat) * 1099511627776 + x4.toNat * 4294967296 = ((((x1.toNat) * 256 + x2.toNat) * 256 + x3.toNat) * 256 + x4.toNat) * 4294967296 := cHi _ _ _ _ (by decide +kernel)
  rw [e4, c4]
  have e5 := orHi IntKind.i64.bits ((((x1.toNat) * 256 + x2.toNat) * 256 + x3.toNat) * 256 + x4.toNat) (x5.toNat * 16777216) 32 4294967296 18446744073709551616 (by decide +kernel) (by decide +kernel) (by omega) (by omega)
  have c5 : ((((x1.toNat) * 256 + x2.toNat) * 256 + x3.toNat) * 256 + x4.toNat) * 4294967296 + x5.toNat * 16777216 = (((((x1.toNat) * 256 + x2.toNat) * 256 + x3.toNat) * 256 + x4.toNat) * 256 + x5.toNat) * 16777216 := cHi _ _ _ _ (by decide +kernel)
  rw [e5, c5]
  have e6 := orHi IntKind.i64.bits (((((x1.toNat) * 256 + x2.toNat) * 256 + x3.toNat) * 256 + x4.toNat) * 256 + x5.toNat) (x6.toNat * 65536) 24 16777216 18446744073709551616 (by decide +kernel) (by decide +kernel) (by omega) (by omega)
  have c6 : (((((x1.toNat) * 256 + x2.toNat) * 256 + x3.toNat) * 256 + x4.toNat) * 256 + x5.toNat) * 16777216 + x6.toNat * 65536 = ((((((x1.toNat) * 256 + x2.toNat) * 256 + x3.toNat) * 256 + x4.toNat) * 256 + x5.toNat) * 256 + x6.toNat) * 65536 := cHi _ _ _ _ (by decide +kernel)
  rw [e6, c6]
  have e7 := orHi IntKind.i64.bits ((((((x1.toNat) * 256 + x2.toNat) * 256 + x3.toNat) * 256 + x4.toNat) * 256 + x5.toNat) * 256 + x6.toNat) (x7.toNat * 256) 16 65536 18446744073709551616 (by decide +kernel) (by decide +kernel) (by omega) (by omega)
  have c7 : ((((((x1.toNat) * 256 + x2.toNat) * 256 + x3.toNat) * 256 + x4.toNat) * 256 + x5.toNat) * 256 + x6.toNat) * 65536 + x7.toNat * 256 = (((((((x1.toNat) * 256 + x2.toNat) * 256 + x3.toNat) * 256 + x4.toNat) * 256 + x5.toNat) * 256 + x6.toNat) * 256 + x7.toNat) * 256 := cHi _ _ _ _ (by decide +kernel)
  rw [e7, c7]
  have e8 := orHi IntKind.i64.bits (((((((x1.toNat) * 256 + x2.toNat) * 256 + x3.toNat) * 256 + x4.toNat) * 256 + x5.toNat) * 256 + x6.toNat) * 256 + x7.toNat) (x8.toNat) 8 256 18446744073709551616 (by decide +kernel) (by decide +kernel) (by omega) (by omega)
  rw [e8]
theorem getM111 (bf : List UInt8) (p : Nat) (h : p + 8 < bf.length) : A0 111 [.own 0 p 9 none] [.bytes 5 bf] (.lit (.int .i64 (m111 (bf.getD (p + 1) 0) (bf.getD (p + 2) 0) (bf.getD (p + 3) 0) (bf.getD (p + 4) 0) (bf.getD (p + 5) 0) (bf.getD (p + 6) 0) (bf.getD (p + 7) 0) (bf.getD (p + 8) 0)))) [.bytes 5 bf] :=
  (g111 bf p (by simp only [AllP]; repeat' (first | exact trivial | with_reducible apply And.intro | omega))).cast rfl rfl (by kernel_rfl) rfl
end Go.Ax
