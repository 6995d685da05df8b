/-
  Numbers of two, four and eight bytes, the highest first, as the package reads them out of a buffer's row.
-/
import Derived.Test.YtkbmfpkbegjhcaaDoorTrA
set_option linter.unusedVariables false
set_option linter.unusedSimpArgs false
set_option maxRecDepth 100000
namespace Go.Ax
open Go.Proofs
theorem orNat (a b s : Nat) (h : a < 2 ^ s) : a ||| (b * 2 ^ s) = a + b * 2 ^ s := by
  rw [Nat.or_comm, ← Nat.shiftLeft_eq, ← Nat.shiftLeft_add_eq_or_of_lt h]
  omega

theorem orI (k : IntKind) (B : Nat) (hB : k.bits = B) (hw : ∀ n : Int, 0 ≤ n → n < 2 ^ B → k.wrap n = n) (a b s : Nat) (h : a < 2 ^ s) (hb : a + b * 2 ^ s < 2 ^ B) :
    k.wrap ((BitVec.ofInt k.bits (a : Int) ||| BitVec.ofInt k.bits (((b * 2 ^ s : Nat)) : Int)).toNat : Int) = ((a + b * 2 ^ s : Nat) : Int) := by
  rw [BitVec.toNat_or, BitVec.toNat_ofInt, BitVec.toNat_ofInt, hB]
  have e1 : ((a : Int) % ((2 ^ B : Nat) : Int)).toNat = a := by
    rw [← Int.natCast_emod, Int.toNat_natCast, Nat.mod_eq_of_lt (by omega)]
  have e2 : (((b * 2 ^ s : Nat) : Int) % ((2 ^ B : Nat) : Int)).toNat = b * 2 ^ s := by
    rw [← Int.natCast_emod, Int.toNat_natCast, Nat.mod_eq_of_lt (by omega)]
  rw [e1, e2, orNat a b s h]
  exact hw _ (by omega) (by have : ((2 : Int) ^ B) = ((2 ^ B : Nat) : Int) := by simp
                            rw [this]; omega)

theorem w16 (n : Int) (h0 : 0 ≤ n) (h : n < 2 ^ 16) : IntKind.u16.wrap n = n := by rw [wrapU16]; omega
theorem w32 (n : Int) (h0 : 0 ≤ n) (h : n < 2 ^ 32) : IntKind.u32.wrap n = n := by rw [wrapU32]; omega

/-- The number of so many bytes from a place on. -/
def beN (bs : List UInt8) (off : Nat) : Nat → Nat
  | 0 => 0
  | k + 1 => beN bs off k * 256 + (bs.getD (off + k) 0).toNat
def or2 (x0 x1 : UInt8) : Int := IntKind.u16.wrap (((BitVec.ofInt IntKind.u16.bits (IntKind.u16.wrap (x1.toNat : Int))) ||| (BitVec.ofInt IntKind.u16.bits (IntKind.u16.wrap (IntKind.u16.wrap (x0.toNat : Int) * (2 : Int) ^ Min.min (Int.toNat (8 : Int)) IntKind.u16.bits)))).toNat : Int)
theorem or2_eq (x0 x1 : UInt8) : or2 x0 x1 = ((x1.toNat + x0.toNat * 2 ^ 8 : Nat) : Int) := by
  have hx0 := x0.toNat_lt
  have hx1 := x1.toNat_lt
  have q : ∀ x : UInt8, IntKind.u16.wrap (x.toNat : Int) = x.toNat := fun x => by have := x.toNat_lt; exact w16 _ (by omega) (by omega)
  have m1 : (2 : Int) ^ Min.min (Int.toNat (8 : Int)) IntKind.u16.bits = 256 := by decide
  have p1 : IntKind.u16.wrap ((x0.toNat : Int) * 256) = ((x0.toNat * 2 ^ 8 : Nat) : Int) := by rw [w16 _ (by omega) (by omega)]; omega
  have e1 := orI .u16 16 rfl w16 (x1.toNat) x0.toNat 8 (by omega) (by omega)
  unfold or2
  rw [q, q, m1, p1, e1]

theorem be2A (G : Env) (bs : List UInt8) (off : Nat) (h : off + 2 ≤ bs.length) : ACalls Tryd.prog G 83 [.agg [], .own 0 off 2 none] [.bytes 5 bs] (.lit (.int .u16 (beN bs off 2))) [.bytes 5 bs] := by
  have e : or2 (bs.getD (off + 0) 0) (bs.getD (off + 1) 0) = (beN bs off 2 : Int) := by rw [or2_eq]; simp only [beN]; omega
  rw [← e]
  exact ((q83 bs off (by simp only [AllP]; repeat' (first | exact trivial | with_reducible apply And.intro | omega))).cast rfl rfl (by kernel_rfl) rfl).anyG G

def or4 (x0 x1 x2 x3 : UInt8) : Int := IntKind.u32.wrap (((BitVec.ofInt IntKind.u32.bits (IntKind.u32.wrap (((BitVec.ofInt IntKind.u32.bits (IntKind.u32.wrap (((BitVec.ofInt IntKind.u32.bits (IntKind.u32.wrap (x3.toNat : Int))) ||| (BitVec.ofInt IntKind.u32.bits (IntKind.u32.wrap (IntKind.u32.wrap (x2.toNat : Int) * (2 : Int) ^ Min.min (Int.toNat (8 : Int)) IntKind.u32.bits)))).toNat : Int))) ||| (BitVec.ofInt IntKind.u32.bits (IntKind.u32.wrap (IntKind.u32.wrap (x1.toNat : Int) * (2 : Int) ^ Min.min (Int.toNat (16 : Int)) IntKind.u32.bits)))).toNat : Int))) ||| (BitVec.ofInt IntKind.u32.bits (IntKind.u32.wrap (IntKind.u32.wrap (x0.toNat : Int) * (2 : Int) ^ Min.min (Int.toNat (24 : Int)) IntKind.u32.bits)))).toNat : Int)
theorem or4_eq (x0 x1 x2 x3 : UInt8) : or4 x0 x1 x2 x3 = ((x3.toNat + x2.toNat * 2 ^ 8 + x1.toNat * 2 ^ 16 + x0.toNat * 2 ^ 24 : Nat) : Int) := by
  have hx0 := x0.toNat_lt
  have hx1 := x1.toNat_lt
  have hx2 := x2.toNat_lt
  have hx3 := x3.toNat_lt
  have q : ∀ x : UInt8, IntKind.u32.wrap (x.toNat : Int) = x.toNat := fun x => by have := x.toNat_lt; exact w32 _ (by omega) (by omega)
  have m1 : (2 : Int) ^ Min.min (Int.toNat (8 : Int)) IntKind.u32.bits = 256 := by decide
  have p1 : IntKind.u32.wrap ((x2.toNat : Int) * 256) = ((x2.toNat * 2 ^ 8 : Nat) : Int) := by rw [w32 _ (by omega) (by omega)]; omega
  have m2 : (2 : Int) ^ Min.min (Int.toNat (16 : Int)) IntKind.u32.bits = 65536 := by decide
  have p2 : IntKind.u32.wrap ((x1.toNat : Int) * 65536) = ((x1.toNat * 2 ^ 16 : Nat) : Int) := by rw [w32 _ (by omega) (by omega)]; omega
  have m3 : (2 : Int) ^ Min.min (Int.toNat (24 : Int)) IntKind.u32.bits = 16777216 := by decide
  have p3 : IntKind.u32.wrap ((x0.toNat : Int) * 16777216) = ((x0.toNat * 2 ^ 24 : Nat) : Int) := by rw [w32 _ (by omega) (by omega)]; omega
  have e1 := orI .u32 32 rfl w32 (x3.toNat) x2.toNat 8 (by omega) (by omega)
  have e2 := orI .u32 32 rfl w32 (x3.toNat + x2.toNat * 2 ^ 8) x1.toNat 16 (by omega) (by omega)
  have e3 := orI .u32 32 rfl w32 (x3.toNat + x2.toNat * 2 ^ 8 + x1.toNat * 2 ^ 16) x0.toNat 24 (by omega) (by omega)
  unfold or4
  rw [q, q, q, q, m1, m2, m3, p1, p2, p3, e1, e2, e3]

theorem be4A (G : Env) (bs : List UInt8) (off : Nat) (h : off + 4 ≤ bs.length) : ACalls Tryd.prog G 84 [.agg [], .own 0 off 4 none] [.bytes 5 bs] (.lit (.int .u32 (beN bs off 4))) [.bytes 5 bs] := by
  have e : or4 (bs.getD (off + 0) 0) (bs.getD (off + 1) 0) (bs.getD (off + 2) 0) (bs.getD (off + 3) 0) = (beN bs off 4 : Int) := by rw [or4_eq]; simp only [beN]; omega
  rw [← e]
  exact ((q84 bs off (by simp only [AllP]; repeat' (first | exact trivial | with_reducible apply And.intro | omega))).cast rfl rfl (by kernel_rfl) rfl).anyG G

end Go.Ax
