/-
  The bytes of a point in time: written and read.
-/
import Derived.Test.YtkbmfpkbegjhcaaDoorPtF
import Derived.Test.YtkbmfpkbegjhcaaDoorPt1
set_option linter.unusedVariables false
set_option linter.unusedSimpArgs false
set_option maxRecDepth 100000
namespace Go.Ax
open Go.Proofs
theorem orNat (a b s : Nat) (h : a < 2 ^ s) : a ||| (b * 2 ^ s) = a + b * 2 ^ s := by
  rw [Nat.or_comm, ← Nat.shiftLeft_eq, ← Nat.shiftLeft_add_eq_or_of_lt h]
  omega

theorem orI (k : IntKind) (B : Nat) (hB : k.bits = B) (hw : ∀ n : Int, 0 ≤ n → n < 2 ^ B → k.wrap n = n) (a b s : Nat) (h : a < 2 ^ s) (hb : a + b * 2 ^ s < 2 ^ B) :
    k.wrap ((BitVec.ofInt k.bits (a : Int) ||| BitVec.ofInt k.bits (((b * 2 ^ s : Nat)) : Int)).toNat : Int) = ((a + b * 2 ^ s : Nat) : Int) := by
  rw [BitVec.toNat_or, BitVec.toNat_ofInt, BitVec.toNat_ofInt, hB]
  have e1 : ((a : Int) % ((2 ^ B : Nat) : Int)).toNat = a := by
    rw [← Int.natCast_emod, Int.toNat_natCast, Nat.mod_eq_of_lt (by omega)]
  have e2 : (((b * 2 ^ s : Nat) : Int) % ((2 ^ B : Nat) : Int)).toNat = b * 2 ^ s := by
    rw [← Int.natCast_emod, Int.toNat_natCast, Nat.mod_eq_of_lt (by omega)]
  rw [e1, e2, orNat a b s h]
  exact hw _ (by omega) (by have : ((2 : Int) ^ B) = ((2 ^ B : Nat) : Int) := by simp
                            rw [this]; omega)

theorem w32 (n : Int) (h0 : 0 ≤ n) (h : n < 2 ^ 32) : IntKind.u32.wrap n = n := by rw [wrapU32]; omega

theorem w64u (n : Int) (h0 : 0 ≤ n) (h : n < 2 ^ 64) : IntKind.u64.wrap n = n := by rw [wrapU64]; omega
def or4 (x0 x1 x2 x3 : UInt8) : Int := IntKind.u32.wrap (((BitVec.ofInt IntKind.u32.bits (IntKind.u32.wrap (((BitVec.ofInt IntKind.u32.bits (IntKind.u32.wrap (((BitVec.ofInt IntKind.u32.bits (IntKind.u32.wrap (x3.toNat : Int))) ||| (BitVec.ofInt IntKind.u32.bits (IntKind.u32.wrap (IntKind.u32.wrap (x2.toNat : Int) * (2 : Int) ^ Min.min (Int.toNat (8 : Int)) IntKind.u32.bits)))).toNat : Int))) ||| (BitVec.ofInt IntKind.u32.bits (IntKind.u32.wrap (IntKind.u32.wrap (x1.toNat : Int) * (2 : Int) ^ Min.min (Int.toNat (16 : Int)) IntKind.u32.bits)))).toNat : Int))) ||| (BitVec.ofInt IntKind.u32.bits (IntKind.u32.wrap (IntKind.u32.wrap (x0.toNat : Int) * (2 : Int) ^ Min.min (Int.toNat (24 : Int)) IntKind.u32.bits)))).toNat : Int)
theorem or4_eq (x0 x1 x2 x3 : UInt8) : or4 x0 x1 x2 x3 = ((x3.toNat + x2.toNat * 2 ^ 8 + x1.toNat * 2 ^ 16 + x0.toNat * 2 ^ 24 : Nat) : Int) := by
  have hx0 := x0.toNat_lt
  have hx1 := x1.toNat_lt
  have hx2 := x2.toNat_lt
  have hx3 := x3.toNat_lt
  have q : ∀ x : UInt8, IntKind.u32.wrap (x.toNat : Int) = x.toNat := fun x => by have := x.toNat_lt; exact w32 _ (by omega) (by omega)
  have m1 : (2 : Int) ^ Min.min (Int.toNat (8 : Int)) IntKind.u32.bits = 256 := by decide
  have p1 : IntKind.u32.wrap ((x2.toNat : Int) * 256) = ((x2.toNat * 2 ^ 8 : Nat) : Int) := by rw [w32 _ (by omega) (by omega)]; omega
  have m2 : (2 : Int) ^ Min.min (Int.toNat (16 : Int)) IntKind.u32.bits = 65536 := by decide
  have p2 : IntKind.u32.wrap ((x1.toNat : Int) * 65536) = ((x1.toNat * 2 ^ 16 : Nat) : Int) := by rw [w32 _ (by omega) (by omega)]; omega
  have m3 : (2 : Int) ^ Min.min (Int.toNat (24 : Int)) IntKind.u32.bits = 16777216 := by decide
  have p3 : IntKind.u32.wrap ((x0.toNat : Int) * 16777216) = ((x0.toNat * 2 ^ 24 : Nat) : Int) := by rw [w32 _ (by omega) (by omega)]; omega
  have e1 := orI .u32 32 rfl w32 (x3.toNat) x2.toNat 8 (by omega) (by omega)
  have e2 := orI .u32 32 rfl w32 (x3.toNat + x2.toNat * 2 ^ 8) x1.toNat 16 (by omega) (by omega)
  have e3 := orI .u32 32 rfl w32 (x3.toNat + x2.toNat * 2 ^ 8 + x1.toNat * 2 ^ 16) x0.toNat 24 (by omega) (by omega)
  unfold or4
  rw [q, q, q, q, m1, m2, m3, p1, p2, p3, e1, e2, e3]

def or8 (x0 x1 x2 x3 x4 x5 x6 x7 : UInt8) : Int := IntKind.u64.wrap (((BitVec.ofInt IntKind.u64.bits (IntKind.u64.wrap (((BitVec.ofInt IntKind.u64.bits (IntKind.u64.wrap (((BitVec.ofInt IntKind.u64.bits (IntKind.u64.wrap (((BitVec.ofInt IntKind.u64.bits (IntKind.u64.wrap (((BitVec.ofInt IntKind.u64.bits (IntKind.u64.wrap (((BitVec.ofInt IntKind.u64.bits (IntKind.u64.wrap (((BitVec.ofInt IntKind.u64.bits (IntKind.u64.wrap (x7.toNat : Int))) ||| (BitVec.ofInt IntKind.u64.bits (IntKind.u64.wrap (IntKind.u64.wrap (x6.toNat : Int) * (2 : Int) ^ Min.min (Int.toNat (8 : Int)) IntKind.u64.bits)))).toNat : Int))) ||| (BitVec.ofInt IntKind.u64.bits (IntKind.u64.wrap (IntKind.u64.wrap (x5.toNat : Int) * (2 : Int) ^ Min.min (Int.toNat (16 : Int)) IntKind.u64.bits)))).toNat : Int))) ||| (BitVec.ofInt IntKind.u64.bits (IntKind.u64.wrap (IntKind.u64.wrap (x4.toNat : Int) * (2 : Int) ^ Min.min (Int.toNat (24 : Int)) IntKind.u64.bits)))).toNat : Int))) ||| (BitVec.ofInt IntKind.u64.bits (IntKind.u64.wrap (IntKind.u64.wrap (x3.toNat : Int) * (2 : Int) ^ Min.min (Int.toNat (32 : Int)) IntKind.u64.bits)))).toNat : Int))) ||| (BitVec.ofInt IntKind.u64.bits (IntKind.u64.wrap (IntKind.u64.wrap (x2.toNat : Int) * (2 : Int) ^ Min.min (Int.toNat (40 : Int)) IntKind.u64.bits)))).toNat : Int))) ||| (BitVec.ofInt IntKind.u64.bits (IntKind.u64.wrap (IntKind.u64.wrap (x1.toNat : Int) * (2 : Int) ^ Min.min (Int.toNat (48 : Int)) IntKind.u64.bits)))).toNat : Int))) ||| (BitVec.ofInt IntKind.u64.bits (IntKind.u64.wrap (IntKind.u64.wrap (x0.toNat : Int) * (2 : Int) ^ Min.min (Int.toNat (56 : Int)) IntKind.u64.bits)))).toNat : Int)
theorem or8_eq (x0 x1 x2 x3 x4 x5 x6 x7 : UInt8) : or8 x0 x1 x2 x3 x4 x5 x6 x7 = ((x7.toNat + x6.toNat * 2 ^ 8 + x5.toNat * 2 ^ 16 + x4.toNat * 2 ^ 24 + x3.toNat * 2 ^ 32 + x2.toNat * 2 ^ 40 + x1.toNat * 2 ^ 48 + x0.toNat * 2 ^ 56 : Nat) : Int) := by
  have hx0 := x0.toNat_lt
  have hx1 := x1.toNat_lt
  have hx2 := x2.toNat_lt
  have hx3 := x3.toNat_lt
  have hx4 := x4.toNat_lt
  have hx5 := x5.toNat_lt
  have hx6 := x6.toNat_lt
  have hx7 := x7.toNat_lt
  have q : ∀ x : UInt8, IntKind.u64.wrap (x.toNat : Int) = x.toNat := fun x => by have := x.toNat_lt; exact w64u _ (by omega) (by omega)
  have m1 : (2 : Int) ^ Min.min (Int.toNat (8 : Int)) IntKind.u64.bits = 256 := by decide
  have p1 : IntKind.u64.wrap ((x6.toNat : Int) * 256) = ((x6.toNat * 2 ^ 8 : Nat) : Int) := by rw [w64u _ (by omega) (by omega)]; omega
  have m2 : (2 : Int) ^ Min.min (Int.toNat (16 : Int)) IntKind.u64.bits = 65536 := by decide
  have p2 : IntKind.u64.wrap ((x5.toNat : Int) * 65536) = ((x5.toNat * 2 ^ 16 : Nat) : Int) := by rw [w64u _ (by omega) (by omega)]; omega
  have m3 : (2 : Int) ^ Min.min (Int.toNat (24 : Int)) IntKind.u64.bits = 16777216 := by decide
  have p3 : IntKind.u64.wrap ((x4.toNat : Int) * 16777216) = ((x4.toNat * 2 ^ 24 : Nat) : Int) := by rw [w64u _ (by omega) (by omega)]; omega
  have m4 : (2 : Int) ^ Min.min (Int.toNat (32 : Int)) IntKind.u64.bits = 4294967296 := by decide
  have p4 : IntKind.u64.wrap ((x3.toNat : Int) * 4294967296) = ((x3.toNat * 2 ^ 32 : Nat) : Int) := by rw [w64u _ (by omega) (by omega)]; omega
  have m5 : (2 : Int) ^ Min.min (Int.toNat (40 : Int)) IntKind.u64.bits = 1099511627776 := by decide
  have p5 : IntKind.u64.wrap ((x2.toNat : Int) * 1099511627776) = ((x2.toNat * 2 ^ 40 : Nat) : Int) := by rw [w64u _ (by omega) (by omega)]; omega
  have m6 : (2 : Int) ^ Min.min (Int.toNat (48 : Int)) IntKind.u64.bits = 281474976710656 := by decide
  have p6 : IntKind.u64.wrap ((x1.toNat : Int) * 281474976710656) = ((x1.toNat * 2 ^ 48 : Nat) : Int) := by rw [w64u _ (by omega) (by omega)]; omega
  have m7 : (2 : Int) ^ Min.min (Int.toNat (56 : Int)) IntKind.u64.bits = 72057594037927936 := by decide
  have p7 : IntKind.u64.wrap ((x0.toNat : Int) * 72057594037927936) = ((x0.toNat * 2 ^ 56 : Nat) : Int) := by rw [w64u _ (by omega) (by omega)]; omega
  have e1 := orI .u64 64 rfl w64u (x7.toNat) x6.toNat 8 (by omega) (by omega)
  have e2 := orI .u64 64 rfl w64u (x7.toNat + x6.toNat * 2 ^ 8) x5.toNat 16 (by omega) (by omega)
  have e3 := orI .u64 64 rfl w64u (x7.toNat + x6.toNat * 2 ^ 8 + x5.toNat * 2 ^ 16) x4.toNat 24 (by omega) (by omega)
  have e4 := orI .u64 64 rfl w64u (x7.toNat + x6.toNat * 2 ^ 8 + x5.toNat * 2 ^ 16 + x4.toNat * 2 ^ 24) x3.toNat 32 (by omega) (by omega)
  have e5 := orI .u64 64 rfl w64u (x7.toNat + x6.toNat * 2 ^ 8 + x5.toNat * 2 ^ 16 + x4.toNat * 2 ^ 24 + x3.toNat * 2 ^ 32) x2.toNat 40 (by omega) (by omega)
  have e6 := orI .u64 64 rfl w64u (x7.toNat + x6.toNat * 2 ^ 8 + x5.toNat * 2 ^ 16 + x4.toNat * 2 ^ 24 + x3.toNat * 2 ^ 32 + x2.toNat * 2 ^ 40) x1.toNat 48 (by omega) (by omega)
  have e7 := orI .u64 64 rfl w64u (x7.toNat + x6.toNat * 2 ^ 8 + x5.toNat * 2 ^ 16 + x4.toNat * 2 ^ 24 + x3.toNat * 2 ^ 32 + x2.toNat * 2 ^ 40 + x1.toNat * 2 ^ 48) x0.toNat 56 (by omega) (by omega)
  unfold or8
  rw [q, q, q, q, q, q, q, q, m1, m2, m3, m4, m5, m6, m7, p1, p2, p3, p4, p5, p6, p7, e1, e2, e3, e4, e5, e6, e7]


theorem byteI_int (x : Int) : ((byteI x).toNat : Int) = x % 256 := by rw [byteI_nat]; omega
theorem lit_byteI (x : Int) : AV.lit (.int .u8 (IntKind.u8.wrap x)) = u8 (byteI x) := by
  rw [u8, byteI_int, wrapU8]
/-- Eight bytes, the highest first. -/
def be8 (v : Int) : List UInt8 := [byteI (v.fdiv 72057594037927936), byteI (v.fdiv 281474976710656), byteI (v.fdiv 1099511627776), byteI (v.fdiv 4294967296), byteI (v.fdiv 16777216), byteI (v.fdiv 65536), byteI (v.fdiv 256), byteI v]
def be4 (v : Int) : List UInt8 := [byteI (v.fdiv 16777216), byteI (v.fdiv 65536), byteI (v.fdiv 256), byteI v]

theorem put64 (bs : List UInt8) (v : Int) : A0 135 [.agg [], .own 0 bs.length 12 none, uL v] [.cells 5 1 (bs.map u8 ++ List.replicate 12 .dead)] (.tup [])
    [.cells 5 1 ((bs ++ be8 v).map u8 ++ List.replicate 4 .dead)] := by
  refine (e135 bs v ?_).cast rfl rfl rfl ?_
  · simp [AllP, setL_one, set_behind, set_behind0, nth_behind]
  · simp [setL_one, set_behind, set_behind0, renL_behind, AV.renL, AV.ren, lit_byteI, be8, u8]

theorem put32 (bs : List UInt8) (v : Int) : A0 136 [.agg [], .own 0 bs.length 4 none, .lit (.int .u32 v)] [.cells 5 1 (bs.map u8 ++ List.replicate 4 .dead)] (.tup [])
    [.cells 5 1 ((bs ++ be4 v).map u8)] := by
  refine (e136 bs v ?_).cast rfl rfl rfl ?_
  · simp [AllP, setL_one, set_behind, set_behind0, nth_behind]
  · simp [setL_one, set_behind, set_behind0, renL_behind, AV.renL, AV.ren, lit_byteI, be4, u8]

theorem le8 (v : Int) (h0 : 0 ≤ v) (h1 : v < 18446744073709551616) (p : List UInt8) (e : p.take 8 = be8 v) : or8 (p.getD 0 0) (p.getD 1 0) (p.getD 2 0) (p.getD 3 0) (p.getD 4 0) (p.getD 5 0) (p.getD 6 0) (p.getD 7 0) = v := by
  have g : ∀ i, i < 8 → p.getD i 0 = (be8 v).getD i 0 := fun i hi => by
    rw [← e]; simp [List.getD, List.getElem?_take, hi]
  rw [g 0 (by omega), g 1 (by omega), g 2 (by omega), g 3 (by omega), g 4 (by omega), g 5 (by omega), g 6 (by omega), g 7 (by omega), or8_eq]
  obtain ⟨n, rfl⟩ := Int.eq_ofNat_of_zero_le h0
  have hb : ∀ k : Nat, 0 < k → (byteI ((n : Int).fdiv (k : Int))).toNat = n / k % 256 := fun k hk => by
    have := byteI_int ((n : Int).fdiv k)
    rw [Int.fdiv_eq_ediv_of_nonneg _ (by omega)] at this ⊢
    omega
  have hb0 : (byteI (n : Int)).toNat = n % 256 := by have := byteI_int (n : Int); omega
  have b7 := hb 72057594037927936 (by omega)
  have b6 := hb 281474976710656 (by omega)
  have b5 := hb 1099511627776 (by omega)
  have b4 := hb 4294967296 (by omega)
  have b3 := hb 16777216 (by omega)
  have b2 := hb 65536 (by omega)
  have b1 := hb 256 (by omega)
  have e2 : n / 65536 = n / 256 / 256 := by rw [Nat.div_div_eq_div_mul]
  have e3 : n / 16777216 = n / 256 / 256 / 256 := by rw [Nat.div_div_eq_div_mul, Nat.div_div_eq_div_mul]
  have e4 : n / 4294967296 = n / 256 / 256 / 256 / 256 := by rw [Nat.div_div_eq_div_mul, Nat.div_div_eq_div_mul, Nat.div_div_eq_div_mul]
  have e5 : n / 1099511627776 = n / 256 / 256 / 256 / 256 / 256 := by rw [Nat.div_div_eq_div_mul, Nat.div_div_eq_div_mul, Nat.div_div_eq_div_mul, Nat.div_div_eq_div_mul]
  have e6 : n / 281474976710656 = n / 256 / 256 / 256 / 256 / 256 / 256 := by rw [Nat.div_div_eq_div_mul, Nat.div_div_eq_div_mul, Nat.div_div_eq_div_mul, Nat.div_div_eq_div_mul, Nat.div_div_eq_div_mul]
  have e7 : n / 72057594037927936 = n / 256 / 256 / 256 / 256 / 256 / 256 / 256 := by rw [Nat.div_div_eq_div_mul, Nat.div_div_eq_div_mul, Nat.div_div_eq_div_mul, Nat.div_div_eq_div_mul, Nat.div_div_eq_div_mul, Nat.div_div_eq_div_mul]
  rw [e7] at b7; rw [e6] at b6; rw [e5] at b5; rw [e4] at b4; rw [e3] at b3; rw [e2] at b2
  simp only [be8, List.getD_cons_zero, List.getD_cons_succ]
  have c7 : (byteI ((n : Int).fdiv 72057594037927936)).toNat = _ := b7
  have c6 : (byteI ((n : Int).fdiv 281474976710656)).toNat = _ := b6
  have c5 : (byteI ((n : Int).fdiv 1099511627776)).toNat = _ := b5
  have c4 : (byteI ((n : Int).fdiv 4294967296)).toNat = _ := b4
  have c3 : (byteI ((n : Int).fdiv 16777216)).toNat = _ := b3
  have c2 : (byteI ((n : Int).fdiv 65536)).toNat = _ := b2
  have c1 : (byteI ((n : Int).fdiv 256)).toNat = _ := b1
  rw [c7, c6, c5, c4, c3, c2, c1, hb0]
  have hlt : n / 256 / 256 / 256 / 256 / 256 / 256 / 256 < 256 := by rw [← e7]; omega
  clear e2 e3 e4 e5 e6 e7 b1 b2 b3 b4 b5 b6 b7 c1 c2 c3 c4 c5 c6 c7 hb hb0 g e h0 h1
  generalize hx1 : n / 256 = x1 at *
  generalize hx2 : x1 / 256 = x2 at *
  generalize hx3 : x2 / 256 = x3 at *
  generalize hx4 : x3 / 256 = x4 at *
  generalize hx5 : x4 / 256 = x5 at *
  generalize hx6 : x5 / 256 = x6 at *
  generalize hx7 : x6 / 256 = x7 at *
  omega

theorem le4 (v : Int) (h0 : 0 ≤ v) (h1 : v < 4294967296) (p : List UInt8) (e : p.take 4 = be4 v) : or4 (p.getD 0 0) (p.getD 1 0) (p.getD 2 0) (p.getD 3 0) = v := by
  have g : ∀ i, i < 4 → p.getD i 0 = (be4 v).getD i 0 := fun i hi => by
    rw [← e]; simp [List.getD, List.getElem?_take, hi]
  rw [g 0 (by omega), g 1 (by omega), g 2 (by omega), g 3 (by omega), or4_eq]
  simp only [be4, List.getD_cons_zero, List.getD_cons_succ]
  have b3 := byteI_int (v.fdiv 16777216)
  have b2 := byteI_int (v.fdiv 65536)
  have b1 := byteI_int (v.fdiv 256)
  have b0 := byteI_int v
  rw [Int.fdiv_eq_ediv_of_nonneg _ (by omega)] at b1 b2 b3 ⊢
  rw [Int.fdiv_eq_ediv_of_nonneg _ (by omega), Int.fdiv_eq_ediv_of_nonneg _ (by omega)]
  omega
end Go.Ax
