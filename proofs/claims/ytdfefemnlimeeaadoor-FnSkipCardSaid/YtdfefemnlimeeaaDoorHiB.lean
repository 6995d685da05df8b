/-
  Numbers of MessagePack, read.
-/
import Derived.Test.YtdfefemnlimeeaaDoorHiP
import Derived.Test.YtdfefemnlimeeaaDoorHiN
set_option linter.unusedVariables false
set_option linter.unusedSimpArgs false
set_option maxRecDepth 100000
namespace Go.Ax
open Go.Proofs

theorem wrapI8 (n : Int) : IntKind.i8.wrap n = (n + 128) % 256 - 128 := by simp [IntKind.wrap, IntKind.signed, IntKind.bits]; split <;> omega
theorem wrapI16 (n : Int) : IntKind.i16.wrap n = (n + 32768) % 65536 - 32768 := by simp [IntKind.wrap, IntKind.signed, IntKind.bits]; split <;> omega
theorem wrapI32 (n : Int) : IntKind.i32.wrap n = (n + 2147483648) % 4294967296 - 2147483648 := by simp [IntKind.wrap, IntKind.signed, IntKind.bits]; split <;> omega

theorem w64u (n : Int) (h0 : 0 ≤ n) (h : n < 2 ^ 64) : IntKind.u64.wrap n = n := by rw [wrapU64]; omega
theorem be8C (G : Env) (x0 x1 x2 x3 x4 x5 x6 x7 : UInt8) (d : List UInt8) : ACalls Tryd.prog G 57 [.agg [], .bts (x0 :: x1 :: x2 :: x3 :: x4 :: x5 :: x6 :: x7 :: d)] [] (.lit (.int .u64 ((x7.toNat + x6.toNat * 2 ^ 8 + x5.toNat * 2 ^ 16 + x4.toNat * 2 ^ 24 + x3.toNat * 2 ^ 32 + x2.toNat * 2 ^ 40 + x1.toNat * 2 ^ 48 + x0.toNat * 2 ^ 56 : Nat) : Int))) [] := by
  have hx0 := x0.toNat_lt
  have hx1 := x1.toNat_lt
  have hx2 := x2.toNat_lt
  have hx3 := x3.toNat_lt
  have hx4 := x4.toNat_lt
  have hx5 := x5.toNat_lt
  have hx6 := x6.toNat_lt
  have hx7 := x7.toNat_lt
  have q : ∀ x : UInt8, IntKind.u64.wrap (x.toNat : Int) = x.toNat := fun x => by have := x.toNat_lt; exact w64u _ (by omega) (by omega)
  have m1 : (2 : Int) ^ Min.min (Int.toNat (8 : Int)) IntKind.u64.bits = 256 := by decide
  have p1 : IntKind.u64.wrap ((x6.toNat : Int) * 256) = ((x6.toNat * 2 ^ 8 : Nat) : Int) := by rw [w64u _ (by omega) (by omega)]; omega
  have m2 : (2 : Int) ^ Min.min (Int.toNat (16 : Int)) IntKind.u64.bits = 65536 := by decide
  have p2 : IntKind.u64.wrap ((x5.toNat : Int) * 65536) = ((x5.toNat * 2 ^ 16 : Nat) : Int) := by rw [w64u _ (by omega) (by omega)]; omega
  have m3 : (2 : Int) ^ Min.min (Int.toNat (24 : Int)) IntKind.u64.bits = 16777216 := by decide
  have p3 : IntKind.u64.wrap ((x4.toNat : Int) * 16777216) = ((x4.toNat * 2 ^ 24 : Nat) : Int) := by rw [w64u _ (by omega) (by omega)]; omega
  have m4 : (2 : Int) ^ Min.min (Int.toNat (32 : Int)) IntKind.u64.bits = 4294967296 := by decide
  have p4 : IntKind.u64.wrap ((x3.toNat : Int) * 4294967296) = ((x3.toNat * 2 ^ 32 : Nat) : Int) := by rw [w64u _ (by omega) (by omega)]; omega
  have m5 : (2 : Int) ^ Min.min (Int.toNat (40 : Int)) IntKind.u64.bits = 1099511627776 := by decide
  have p5 : IntKind.u64.wrap ((x2.toNat : Int) * 1099511627776) = ((x2.toNat * 2 ^ 40 : Nat) : Int) := by rw [w64u _ (by omega) (by omega)]; omega
  have m6 : (2 : Int) ^ Min.min (Int.toNat (48 : Int)) IntKind.u64.bits = 281474976710656 := by decide
  have p6 : IntKind.u64.wrap ((x1.toNat : Int) * 281474976710656) = ((x1.toNat * 2 ^ 48 : Nat) : Int) := by rw [w64u _ (by omega) (by omega)]; omega
  have m7 : (2 : Int) ^ Min.min (Int.toNat (56 : Int)) IntKind.u64.bits = 72057594037927936 := by decide
  have p7 : IntKind.u64.wrap ((x0.toNat : Int) * 72057594037927936) = ((x0.toNat * 2 ^ 56 : Nat) : Int) := by rw [w64u _ (by omega) (by omega)]; omega
  have e1 := orI .u64 64 rfl w64u (x7.toNat) x6.toNat 8 (by omega) (by omega)
  have e2 := orI .u64 64 rfl w64u (x7.toNat + x6.toNat * 2 ^ 8) x5.toNat 16 (by omega) (by omega)
  have e3 := orI .u64 64 rfl w64u (x7.toNat + x6.toNat * 2 ^ 8 + x5.toNat * 2 ^ 16) x4.toNat 24 (by omega) (by omega)
  have e4 := orI .u64 64 rfl w64u (x7.toNat + x6.toNat * 2 ^ 8 + x5.toNat * 2 ^ 16 + x4.toNat * 2 ^ 24) x3.toNat 32 (by omega) (by omega)
  have e5 := orI .u64 64 rfl w64u (x7.toNat + x6.toNat * 2 ^ 8 + x5.toNat * 2 ^ 16 + x4.toNat * 2 ^ 24 + x3.toNat * 2 ^ 32) x2.toNat 40 (by omega) (by omega)
  have e6 := orI .u64 64 rfl w64u (x7.toNat + x6.toNat * 2 ^ 8 + x5.toNat * 2 ^ 16 + x4.toNat * 2 ^ 24 + x3.toNat * 2 ^ 32 + x2.toNat * 2 ^ 40) x1.toNat 48 (by omega) (by omega)
  have e7 := orI .u64 64 rfl w64u (x7.toNat + x6.toNat * 2 ^ 8 + x5.toNat * 2 ^ 16 + x4.toNat * 2 ^ 24 + x3.toNat * 2 ^ 32 + x2.toNat * 2 ^ 40 + x1.toNat * 2 ^ 48) x0.toNat 56 (by omega) (by omega)
  refine ((be8 x0 x1 x2 x3 x4 x5 x6 x7 d ⟨by simp only [List.length_cons]; omega, by simp only [List.length_cons]; omega, by simp only [List.length_cons]; omega, by simp only [List.length_cons]; omega, by simp only [List.length_cons]; omega, by simp only [List.length_cons]; omega, by simp only [List.length_cons]; omega, by simp only [List.length_cons]; omega, by simp only [List.length_cons]; omega, trivial⟩).cast rfl rfl ?_ rfl).anyG G
  show AV.lit (.int .u64 (IntKind.u64.wrap (((BitVec.ofInt IntKind.u64.bits (IntKind.u64.wrap (((BitVec.ofInt IntKind.u64.bits (IntKind.u64.wrap (((BitVec.ofInt IntKind.u64.bits (IntKind.u64.wrap (((BitVec.ofInt IntKind.u64.bits (IntKind.u64.wrap (((BitVec.ofInt IntKind.u64.bits (IntKind.u64.wrap (((BitVec.ofInt IntKind.u64.bits (IntKind.u64.wrap (((BitVec.ofInt IntKind.u64.bits (IntKind.u64.wrap (x7.toNat : Int))) ||| (BitVec.ofInt IntKind.u64.bits (IntKind.u64.wrap (IntKind.u64.wrap (x6.toNat : Int) * (2 : Int) ^ Min.min (Int.toNat (8 : Int)) IntKind.u64.bits)))).toNat : Int))) ||| (BitVec.ofInt IntKind.u64.bits (IntKind.u64.wrap (IntKind.u64.wrap (x5.toNat : Int) * (2 : Int) ^ Min.min (Int.toNat (16 : Int)) IntKind.u64.bits)))).toNat : Int))) ||| (BitVec.ofInt IntKind.u64.bits (IntKind.u64.wrap (IntKind.u64.wrap (x4.toNat : Int) * (2 : Int) ^ Min.min (Int.toNat (24 : Int)) IntKind.u64.bits)))).toNat : Int))) ||| (BitVec.ofInt IntKind.u64.bits (IntKind.u64.wrap (IntKind.u64.wrap (x3.toNat : Int) * (2 : Int) ^ Min.min (Int.toNat (32 : Int)) IntKind.u64.bits)))).toNat : Int))) ||| (BitVec.ofInt IntKind.u64.bits (IntKind.u64.wrap (IntKind.u64.wrap (x2.toNat : Int) * (2 : Int) ^ Min.min (Int.toNat (40 : Int)) IntKind.u64.bits)))).toNat : Int))) ||| (BitVec.ofInt IntKind.u64.bits (IntKind.u64.wrap (IntKind.u64.wrap (x1.toNat : Int) * (2 : Int) ^ Min.min (Int.toNat (48 : Int)) IntKind.u64.bits)))).toNat : Int))) ||| (BitVec.ofInt IntKind.u64.bits (IntKind.u64.wrap (IntKind.u64.wrap (x0.toNat : Int) * (2 : Int) ^ Min.min (Int.toNat (56 : Int)) IntKind.u64.bits)))).toNat : Int))) = _
  rw [q, q, q, q, q, q, q, q, m1, m2, m3, m4, m5, m6, m7, p1, p2, p3, p4, p5, p6, p7, e1, e2, e3, e4, e5, e6, e7]

/-! ### The first byte -/
theorem t53 : ∀ n : Fin 256, ((n.val : Int).fdiv (128 : Int) == (0 : Int)) = decide (n.val < 128) := by decide +kernel
theorem t55 : ∀ n : Fin 256, (IntKind.u8.wrap ((BitVec.ofInt IntKind.u8.bits (n.val : Int) &&& BitVec.ofInt IntKind.u8.bits 224).toNat : Int) == (224 : Int)) = decide (224 ≤ n.val) := by decide +kernel
theorem is53C (G : Env) (b : UInt8) : ACalls Tryd.prog G 53 [.lit (.int .u8 (b.toNat : Int))] [] (.lit (.bool (decide (b.toNat < 128)))) [] :=
  ((is53 b.toNat trivial).cast rfl rfl (by rw [← t53 ⟨b.toNat, b.toNat_lt⟩]) rfl).anyG G
theorem is53no (G : Env) (b : UInt8) (h : 128 ≤ b.toNat) : ACalls Tryd.prog G 53 [.lit (.int .u8 (b.toNat : Int))] [] (.lit (.bool false)) [] := by
  have := is53C G b
  rw [decide_eq_false (by omega)] at this
  exact this
theorem is53yes (G : Env) (b : UInt8) (h : b.toNat < 128) : ACalls Tryd.prog G 53 [.lit (.int .u8 (b.toNat : Int))] [] (.lit (.bool true)) [] := by
  have := is53C G b
  rw [decide_eq_true h] at this
  exact this
theorem is55C (G : Env) (b : UInt8) : ACalls Tryd.prog G 55 [.lit (.int .u8 (b.toNat : Int))] [] (.lit (.bool (decide (224 ≤ b.toNat)))) [] :=
  ((is55 b.toNat trivial).cast rfl rfl (by rw [← t55 ⟨b.toNat, b.toNat_lt⟩]) rfl).anyG G
theorem is55no (G : Env) (b : UInt8) (h : b.toNat < 224) : ACalls Tryd.prog G 55 [.lit (.int .u8 (b.toNat : Int))] [] (.lit (.bool false)) [] := by
  have := is55C G b
  rw [decide_eq_false (by omega)] at this
  exact this
theorem is55yes (G : Env) (b : UInt8) (h : 224 ≤ b.toNat) : ACalls Tryd.prog G 55 [.lit (.int .u8 (b.toNat : Int))] [] (.lit (.bool true)) [] := by
  have := is55C G b
  rw [decide_eq_true h] at this
  exact this

theorem Le_n (k : IntKind) (n : Int) (t : Nat) (v : AV) : Le (.tup [.lit (.int k n), .lit (.slice none 0 0), .ifc t v]) (.tup [.lit (.int k n), .bts [], errAV t]) :=
  Le_tup ⟨Le.refl _, Le_nil, Le_ifc _ _, trivial⟩

theorem bigL1 (u : Int) : bigL u 1 = [byteI u] := by simp [bigL]
theorem bigL2 (u : Int) : bigL u 2 = [byteI (u / 256), byteI u] := by simp [bigL]
theorem bigL4 (u : Int) : bigL u 4 = [byteI (u / 16777216), byteI (u / 65536), byteI (u / 256), byteI u] := by simp [bigL]
theorem bigL8 (u : Int) : bigL u 8 = [byteI (u / 72057594037927936), byteI (u / 281474976710656), byteI (u / 1099511627776), byteI (u / 4294967296), byteI (u / 16777216), byteI (u / 65536), byteI (u / 256), byteI u] := by simp [bigL]

theorem val2 (u : Int) (h : 0 ≤ u) : (((byteI u).toNat + (byteI (u / 256)).toNat * 2 ^ 8 : Nat) : Int) = u % 65536 := by rw [byteI_nat, byteI_nat]; omega
theorem val4 (u : Int) (h : 0 ≤ u) : (((byteI u).toNat + (byteI (u / 256)).toNat * 2 ^ 8 + (byteI (u / 65536)).toNat * 2 ^ 16 + (byteI (u / 16777216)).toNat * 2 ^ 24 : Nat) : Int) = u % 4294967296 := by
  rw [byteI_nat, byteI_nat, byteI_nat, byteI_nat]; omega
theorem val8 (u : Int) (h : 0 ≤ u) (h1 : u < 18446744073709551616) : (((byteI u).toNat + (byteI (u / 256)).toNat * 2 ^ 8 + (byteI (u / 65536)).toNat * 2 ^ 16 + (byteI (u / 16777216)).toNat * 2 ^ 24 + (byteI (u / 4294967296)).toNat * 2 ^ 32 +
    (byteI (u / 1099511627776)).toNat * 2 ^ 40 + (byteI (u / 281474976710656)).toNat * 2 ^ 48 + (byteI (u / 72057594037927936)).toNat * 2 ^ 56 : Nat) : Int) = u := by
  have z : ∀ x : Int, ((byteI x).toNat : Int) = x % 256 := fun x => by rw [byteI_nat]; omega
  have k1 : u / 65536 = u / 256 / 256 := by omega
  have k2 : u / 16777216 = u / 65536 / 256 := by omega
  have k3 : u / 4294967296 = u / 16777216 / 256 := by omega
  have k4 : u / 1099511627776 = u / 4294967296 / 256 := by omega
  have k5 : u / 281474976710656 = u / 1099511627776 / 256 := by omega
  have k6 : u / 72057594037927936 = u / 281474976710656 / 256 := by omega
  have k7 : u / 72057594037927936 < 256 := by omega
  have k8 : 0 ≤ u / 72057594037927936 := by omega
  simp only [Int.natCast_add, Int.natCast_mul, z]
  generalize u / 72057594037927936 = a7 at *
  generalize u / 281474976710656 = a6 at *
  generalize u / 1099511627776 = a5 at *
  generalize u / 4294967296 = a4 at *
  generalize u / 16777216 = a3 at *
  generalize u / 65536 = a2 at *
  have k0 : u = u % 256 + 256 * (u / 256) := by omega
  generalize u / 256 = a1 at *
  clear h h1 z
  subst k6
  omega
end Go.Ax
