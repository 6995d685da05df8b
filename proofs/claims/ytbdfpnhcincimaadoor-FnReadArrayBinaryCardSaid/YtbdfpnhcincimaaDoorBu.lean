/-
  Runs of the abstract machine, printed by program.
-/
import Derived.Test.YtbdfpnhcincimaaDoorVaA
import Derived.Test.YtbdfpnhcincimaaDoorProg
import Derived.Test.YtbdfpnhcincimaaDoorAx33
set_option linter.unusedVariables false
set_option linter.unusedSimpArgs false
set_option maxRecDepth 100000
set_option maxHeartbeats 0
namespace Go.Ax
open Go.Proofs
theorem bu4 (bs : List UInt8) (off : Nat) (hC : AllP [off + 0 < bs.length, off + 1 < bs.length, off + 2 < bs.length, off + 3 < bs.length, off + 3 < bs.length]) : A0 104 [.agg [], .own 0 off 4 none] [.bytes 5 bs] (AV.lit (.int .u32 (IntKind.u32.wrap (↑(BitVec.ofInt IntKind.u32.bits (IntKind.u32.wrap (↑(BitVec.ofInt IntKind.u32.bits (IntKind.u32.wrap (↑(BitVec.ofInt IntKind.u32.bits (IntKind.u32.wrap (↑(bs.getD (off + Int.toNat (3 : Int) * (fun x => x.size) Tryd.prog.types[5]) (0 : UInt8)).toNat : Int)) ||| BitVec.ofInt IntKind.u32.bits (IntKind.u32.wrap (IntKind.u32.wrap (↑(bs.getD (off + Int.toNat (2 : Int) * (fun x => x.size) Tryd.prog.types[5]) (0 : UInt8)).toNat : Int) * (2 : Int) ^ Min.min (Int.toNat (8 : Int)) IntKind.u32.bits))).toNat : Int)) ||| BitVec.ofInt IntKind.u32.bits (IntKind.u32.wrap (IntKind.u32.wrap (↑(bs.getD (off + Int.toNat (1 : Int) * (fun x => x.size) Tryd.prog.types[5]) (0 : UInt8)).toNat : Int) * (2 : Int) ^ Min.min (Int.toNat (16 : Int)) IntKind.u32.bits))).toNat : Int)) ||| BitVec.ofInt IntKind.u32.bits (IntKind.u32.wrap (IntKind.u32.wrap (↑(bs.getD (off + Int.toNat (0 : Int) * (fun x => x.size) Tryd.prog.types[5]) (0 : UInt8)).toNat : Int) * (2 : Int) ^ Min.min (Int.toNat (24 : Int)) IntKind.u32.bits))).toNat : Int)))) ([Row.bytes 5 bs]) :=
  ACalls_scr [0] Tryd.func104 (SQ ((0 : Int) ≤ (24 : Int)) (SP (getP 0 hC) (SQ ((0 : Int) ≤ (0 : Int) ∧ (0 : Int) < (4 : Int)) (SQ ((0 : Int) ≤ (16 : Int)) (SP (getP 1 hC) (SQ ((0 : Int) ≤ (1 : Int) ∧ (1 : Int) < (4 : Int)) (SQ ((0 : Int) ≤ (8 : Int)) (SP (getP 2 hC) (SQ ((0 : Int) ≤ (2 : Int) ∧ (2 : Int) < (4 : Int)) (SP (getP 3 hC) (SQ ((0 : Int) ≤ (3 : Int) ∧ (3 : Int) < (4 : Int)) (SP (getP 4 hC) (SQ ((0 : Int) ≤ (3 : Int) ∧ (3 : Int) < (4 : Int)) S0)))))))))))))
end Go.Ax
