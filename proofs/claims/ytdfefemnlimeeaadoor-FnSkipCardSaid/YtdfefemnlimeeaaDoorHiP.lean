/-
  Numbers of two and of four bytes (as in the text about texts; the two are never imported together).
-/
import Derived.Test.YtdfefemnlimeeaaDoorGtQ
import Derived.Test.YtdfefemnlimeeaaDoorGtT
set_option linter.unusedVariables false
set_option linter.unusedSimpArgs false
set_option maxRecDepth 100000
namespace Go.Ax
open Go.Proofs

theorem orNat (a b s : Nat) (h : a < 2 ^ s) : a ||| (b * 2 ^ s) = a + b * 2 ^ s := by
  rw [Nat.or_comm, ← Nat.shiftLeft_eq, ← Nat.shiftLeft_add_eq_or_of_lt h]
  omega

theorem orI (k : IntKind) (B : Nat) (hB : k.bits = B) (hw : ∀ n : Int, 0 ≤ n → n < 2 ^ B → k.wrap n = n) (a b s : Nat) (h : a < 2 ^ s) (hb : a + b * 2 ^ s < 2 ^ B) :
    k.wrap ((BitVec.ofInt k.bits (a : Int) ||| BitVec.ofInt k.bits (((b * 2 ^ s : Nat)) : Int)).toNat : Int) = ((a + b * 2 ^ s : Nat) : Int) := by
  rw [BitVec.toNat_or, BitVec.toNat_ofInt, BitVec.toNat_ofInt, hB]
  have e1 : ((a : Int) % ((2 ^ B : Nat) : Int)).toNat = a := by
    rw [← Int.natCast_emod, Int.toNat_natCast, Nat.mod_eq_of_lt (by omega)]
  have e2 : (((b * 2 ^ s : Nat) : Int) % ((2 ^ B : Nat) : Int)).toNat = b * 2 ^ s := by
    rw [← Int.natCast_emod, Int.toNat_natCast, Nat.mod_eq_of_lt (by omega)]
  rw [e1, e2, orNat a b s h]
  exact hw _ (by omega) (by have : ((2 : Int) ^ B) = ((2 ^ B : Nat) : Int) := by simp
                            rw [this]; omega)

theorem w16 (n : Int) (h0 : 0 ≤ n) (h : n < 2 ^ 16) : IntKind.u16.wrap n = n := by rw [wrapU16]; omega
theorem w32 (n : Int) (h0 : 0 ≤ n) (h : n < 2 ^ 32) : IntKind.u32.wrap n = n := by rw [wrapU32]; omega

theorem be2C (G : Env) (x0 x1 : UInt8) (d : List UInt8) : ACalls Tryd.prog G 50 [.agg [], .bts (x0 :: x1 :: d)] [] (.lit (.int .u16 ((x1.toNat + x0.toNat * 2 ^ 8 : Nat) : Int))) [] := by
  have h0 := x0.toNat_lt
  have h1 := x1.toNat_lt
  have q0 : IntKind.u16.wrap (x0.toNat : Int) = x0.toNat := w16 _ (by omega) (by omega)
  have q1 : IntKind.u16.wrap (x1.toNat : Int) = x1.toNat := w16 _ (by omega) (by omega)
  have q2 : IntKind.u16.wrap ((x0.toNat : Int) * (2 : Int) ^ Min.min (Int.toNat (8 : Int)) IntKind.u16.bits) = ((x0.toNat * 2 ^ 8 : Nat) : Int) := by
    have : (2 : Int) ^ Min.min (Int.toNat (8 : Int)) IntKind.u16.bits = 256 := by decide
    rw [this, w16 _ (by omega) (by omega)]
    omega
  have e := orI .u16 16 rfl w16 x1.toNat x0.toNat 8 (by omega) (by omega)
  refine ((be2 x0 x1 d ⟨by simp; omega, by simp; omega, by simp; omega, trivial⟩).cast rfl rfl ?_ rfl).anyG G
  show AV.lit (.int .u16 (IntKind.u16.wrap (((BitVec.ofInt IntKind.u16.bits (IntKind.u16.wrap (x1.toNat : Int))) ||| (BitVec.ofInt IntKind.u16.bits (IntKind.u16.wrap (IntKind.u16.wrap (x0.toNat : Int) * (2 : Int) ^ Min.min (Int.toNat (8 : Int)) IntKind.u16.bits)))).toNat : Int))) = _
  rw [q0, q1, q2, e]

theorem be4C (G : Env) (x0 x1 x2 x3 : UInt8) (d : List UInt8) : ACalls Tryd.prog G 51 [.agg [], .bts (x0 :: x1 :: x2 :: x3 :: d)] [] (.lit (.int .u32 ((x3.toNat + x2.toNat * 2 ^ 8 + x1.toNat * 2 ^ 16 + x0.toNat * 2 ^ 24 : Nat) : Int))) [] := by
  have h0 := x0.toNat_lt
  have h1 := x1.toNat_lt
  have h2 := x2.toNat_lt
  have h3 := x3.toNat_lt
  have q : ∀ x : UInt8, IntKind.u32.wrap (x.toNat : Int) = x.toNat := fun x => by have := x.toNat_lt; exact w32 _ (by omega) (by omega)
  have m8 : (2 : Int) ^ Min.min (Int.toNat (8 : Int)) IntKind.u32.bits = 256 := by decide
  have m16 : (2 : Int) ^ Min.min (Int.toNat (16 : Int)) IntKind.u32.bits = 65536 := by decide
  have m24 : (2 : Int) ^ Min.min (Int.toNat (24 : Int)) IntKind.u32.bits = 16777216 := by decide
  have p8 : IntKind.u32.wrap ((x2.toNat : Int) * 256) = ((x2.toNat * 2 ^ 8 : Nat) : Int) := by rw [w32 _ (by omega) (by omega)]; omega
  have p16 : IntKind.u32.wrap ((x1.toNat : Int) * 65536) = ((x1.toNat * 2 ^ 16 : Nat) : Int) := by rw [w32 _ (by omega) (by omega)]; omega
  have p24 : IntKind.u32.wrap ((x0.toNat : Int) * 16777216) = ((x0.toNat * 2 ^ 24 : Nat) : Int) := by rw [w32 _ (by omega) (by omega)]; omega
  have e1 := orI .u32 32 rfl w32 x3.toNat x2.toNat 8 (by omega) (by omega)
  have e2 := orI .u32 32 rfl w32 (x3.toNat + x2.toNat * 2 ^ 8) x1.toNat 16 (by omega) (by omega)
  have e3 := orI .u32 32 rfl w32 (x3.toNat + x2.toNat * 2 ^ 8 + x1.toNat * 2 ^ 16) x0.toNat 24 (by omega) (by omega)
  refine ((be4 x0 x1 x2 x3 d ⟨by simp; omega, by simp; omega, by simp; omega, by simp; omega, by simp; omega, trivial⟩).cast rfl rfl ?_ rfl).anyG G
  show AV.lit (.int .u32 (IntKind.u32.wrap (((BitVec.ofInt IntKind.u32.bits (IntKind.u32.wrap (((BitVec.ofInt IntKind.u32.bits (IntKind.u32.wrap (((BitVec.ofInt IntKind.u32.bits (IntKind.u32.wrap (x3.toNat : Int))) ||| (BitVec.ofInt IntKind.u32.bits (IntKind.u32.wrap (IntKind.u32.wrap (x2.toNat : Int) * (2 : Int) ^ Min.min (Int.toNat (8 : Int)) IntKind.u32.bits)))).toNat : Int))) ||| (BitVec.ofInt IntKind.u32.bits (IntKind.u32.wrap (IntKind.u32.wrap (x1.toNat : Int) * (2 : Int) ^ Min.min (Int.toNat (16 : Int)) IntKind.u32.bits)))).toNat : Int))) ||| (BitVec.ofInt IntKind.u32.bits (IntKind.u32.wrap (IntKind.u32.wrap (x0.toNat : Int) * (2 : Int) ^ Min.min (Int.toNat (24 : Int)) IntKind.u32.bits)))).toNat : Int))) = _
  rw [q, q, q, q, m8, m16, m24, p8, p16, p24, e1, e2, e3]

end Go.Ax
