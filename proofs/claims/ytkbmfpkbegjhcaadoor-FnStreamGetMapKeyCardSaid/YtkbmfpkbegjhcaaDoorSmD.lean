/-
  What a Reader over a stream reads: a number of four bytes without a sign.
-/
import Derived.Test.YtkbmfpkbegjhcaaDoorSmB
import Derived.Test.YtkbmfpkbegjhcaaDoorSmC
set_option linter.unusedVariables false
set_option linter.unusedSimpArgs false
set_option maxRecDepth 100000
set_option maxHeartbeats 0
namespace Go.Ax
open Go.Proofs
def m110 (x1 x2 x3 x4 : UInt8) : Int := IntKind.u32.wrap ((BitVec.ofInt IntKind.u32.bits (IntKind.u32.wrap ((BitVec.ofInt IntKind.u32.bits (IntKind.u32.wrap ((BitVec.ofInt IntKind.u32.bits (IntKind.u32.wrap (IntKind.u32.wrap (x1.toNat : Int) * (2 : Int) ^ Min.min (Int.toNat (24 : Int)) IntKind.u32.bits)) ||| BitVec.ofInt IntKind.u32.bits (IntKind.u32.wrap (IntKind.u32.wrap (x2.toNat : Int) * (2 : Int) ^ Min.min (Int.toNat (16 : Int)) IntKind.u32.bits))).toNat : Int)) ||| BitVec.ofInt IntKind.u32.bits (IntKind.u32.wrap (IntKind.u32.wrap (x3.toNat : Int) * (2 : Int) ^ Min.min (Int.toNat (8 : Int)) IntKind.u32.bits))).toNat : Int)) ||| BitVec.ofInt IntKind.u32.bits (IntKind.u32.wrap (x4.toNat : Int))).toNat : Int)
def m112 (x1 x2 x3 x4 x5 x6 x7 x8 : UInt8) : Int := IntKind.u64.wrap ((BitVec.ofInt IntKind.u64.bits (IntKind.u64.wrap ((BitVec.ofInt IntKind.u64.bits (IntKind.u64.wrap ((BitVec.ofInt IntKind.u64.bits (IntKind.u64.wrap ((BitVec.ofInt IntKind.u64.bits (IntKind.u64.wrap ((BitVec.ofInt IntKind.u64.bits (IntKind.u64.wrap ((BitVec.ofInt IntKind.u64.bits (IntKind.u64.wrap ((BitVec.ofInt IntKind.u64.bits (IntKind.u64.wrap (IntKind.u64.wrap (x1.toNat : Int) * (2 : Int) ^ Min.min (Int.toNat (56 : Int)) IntKind.u64.bits)) ||| BitVec.ofInt IntKind.u64.bits (IntKind.u64.wrap (IntKind.u64.wrap (x2.toNat : Int) * (2 : Int) ^ Min.min (Int.toNat (48 : Int)) IntKind.u64.bits))).toNat : Int)) ||| BitVec.ofInt IntKind.u64.bits (IntKind.u64.wrap (IntKind.u64.wrap (x3.toNat : Int) * (2 : Int) ^ Min.min (Int.toNat (40 : Int)) IntKind.u64.bits))).toNat : Int)) ||| BitVec.ofInt IntKind.u64.bits (IntKind.u64.wrap (IntKind.u64.wrap (x4.toNat : Int) * (2 : Int) ^ Min.min (Int.toNat (32 : Int)) IntKind.u64.bits))).toNat : Int)) ||| BitVec.ofInt IntKind.u64.bits (IntKind.u64.wrap (IntKind.u64.wrap (x5.toNat : Int) * (2 : Int) ^ Min.min (Int.toNat (24 : Int)) IntKind.u64.bits))).toNat : Int)) ||| BitVec.ofInt IntKind.u64.bits (IntKind.u64.wrap (IntKind.u64.wrap (x6.toNat : Int) * (2 : Int) ^ Min.min (Int.toNat (16 : Int)) IntKind.u64.bits))).toNat : Int)) ||| BitVec.ofInt IntKind.u64.bits (IntKind.u64.wrap (IntKind.u64.wrap (x7.toNat : Int) * (2 : Int) ^ Min.min (Int.toNat (8 : Int)) IntKind.u64.bits))).toNat : Int)) ||| BitVec.ofInt IntKind.u64.bits (IntKind.u64.wrap (x8.toNat : Int))).toNat : Int)
end Go.Ax
