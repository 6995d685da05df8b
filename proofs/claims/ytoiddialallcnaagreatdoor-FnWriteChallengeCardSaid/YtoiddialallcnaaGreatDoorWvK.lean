/-
  laws.FnWriteChallenge: what the function computes.
-/
import Derived.Test.YtoiddialallcnaaGreatDoorWuD
import Derived.Test.YtoiddialallcnaaGreatDoorWvB
import Derived.Test.YtoiddialallcnaaGreatDoorWvE
import Derived.Test.YtoiddialallcnaaGreatDoorWvF
import Derived.Test.YtoiddialallcnaaGreatDoorWvG
import Derived.Test.YtoiddialallcnaaGreatDoorWvH
import Derived.Test.YtoiddialallcnaaGreatDoorWvI
set_option linter.unusedVariables false
set_option linter.unusedSimpArgs false
set_option maxRecDepth 100000
set_option maxHeartbeats 1000000
namespace Go.Ax
open Go.Proofs

theorem h64c : (2 : Int) ^ IntKind.u64.bits = 18446744073709551616 := by decide

theorem or1 (x : UInt8) : (IntKind.u64.wrap (↑(BitVec.ofInt IntKind.u64.bits (IntKind.u64.wrap (0 : Int)) ||| BitVec.ofInt IntKind.u64.bits (IntKind.u64.wrap (↑x.toNat : Int))).toNat : Int)) = (x.toNat : Int) := by
  have hx : x.toNat < 256 := x.toNat_lt
  have e := or64 0 x
  rw [show ((0 : Nat) : Int) * 2 ^ min (Int.toNat 8) IntKind.u64.bits = 0 by simp] at e
  refine e.trans ?_
  omega

theorem or0 (x : UInt8) : IntKind.u64.wrap (↑((IntKind.u64.wrap (0 : Int) % (2 : Int) ^ IntKind.u64.bits).toNat ||| (IntKind.u64.wrap (↑x.toNat : Int) % (2 : Int) ^ IntKind.u64.bits).toNat) : Int) = (x.toNat : Int) := by
  have hx : x.toNat < 256 := x.toNat_lt
  have e0 : (IntKind.u64.wrap (0 : Int) % (2 : Int) ^ IntKind.u64.bits).toNat = 0 := by decide
  have e1 : (IntKind.u64.wrap (↑x.toNat : Int) % (2 : Int) ^ IntKind.u64.bits).toNat = x.toNat := by rw [wrapU64, h64c]; omega
  rw [e0, e1, Nat.zero_or, wrapU64]
  omega

theorem or8 (n : Nat) (b : UInt8) (hn : n < 72057594037927936) : IntKind.u64.wrap (↑(BitVec.ofInt IntKind.u64.bits (IntKind.u64.wrap ((n : Int) * (2 : Int) ^ Min.min 8 IntKind.u64.bits)) ||| BitVec.ofInt IntKind.u64.bits (IntKind.u64.wrap (↑b.toNat : Int))).toNat : Int) = ((n * 256 + b.toNat : Nat) : Int) := by
  have hb : b.toNat < 256 := b.toNat_lt
  refine (or64 n b).trans ?_
  omega

theorem in8 (n : Nat) (b : UInt8) (hn : n < 72057594037927936) : IntKind.u64.wrap (↑((IntKind.u64.wrap ((n : Int) * (2 : Int) ^ Min.min 8 IntKind.u64.bits) % (2 : Int) ^ IntKind.u64.bits).toNat ||| (IntKind.u64.wrap (↑b.toNat : Int) % (2 : Int) ^ IntKind.u64.bits).toNat) : Int) = ((n * 256 + b.toNat : Nat) : Int) := by
  have e := or8 n b hn
  rw [BitVec.toNat_or, BitVec.toNat_ofInt, BitVec.toNat_ofInt, show ((2 ^ IntKind.u64.bits : Nat) : Int) = (2 : Int) ^ IntKind.u64.bits by decide] at e
  exact e

theorem big1 (x : UInt8) (r : List UInt8) (n : Int) (hr : r.length ≤ 100000) (hn : (x.toNat : Int) = n) : ACalls Tryz.prog noG 55 [.bts (x :: r), .lit (.int .i64 1)] [] (.tup [.lit (.int .u64 n), .bts r, .lit (.bool true)]) [] := by
  have e := b1 x r hr ⟨by omega, trivial⟩
  rw [or1, hn] at e
  exact e

theorem big4 (x1 x2 x3 x4 : UInt8) (r : List UInt8) (n : Int) (hr : r.length ≤ 100000) (hn : ((((x1.toNat * 256 + x2.toNat) * 256 + x3.toNat) * 256 + x4.toNat : Nat) : Int) = n) :
    ACalls Tryz.prog noG 55 [.bts (x1 :: x2 :: x3 :: x4 :: r), .lit (.int .i64 4)] [] (.tup [.lit (.int .u64 n), .bts r, .lit (.bool true)]) [] := by
  have a1 : x1.toNat < 256 := x1.toNat_lt
  have a2 : x2.toNat < 256 := x2.toNat_lt
  have a3 : x3.toNat < 256 := x3.toNat_lt
  have e := b4 x1 x2 x3 x4 r hr ⟨by omega, trivial⟩
  rw [or0, in8 _ _ (by omega), in8 _ _ (by omega), or8 _ _ (by omega), hn] at e
  exact e

theorem fourB (m n : Int) (h : m = n) (h0 : 0 ≤ n) (h1 : n < 4294967296) : (((((byteI ((IntKind.u32.wrap m).fdiv 16777216)).toNat * 256 + (byteI ((IntKind.u32.wrap m).fdiv 65536)).toNat) * 256 + (byteI ((IntKind.u32.wrap m).fdiv 256)).toNat) * 256 + (byteI (IntKind.u32.wrap m)).toNat : Nat) : Int) = n := by
  subst h
  rw [wrapU32, show m % 4294967296 = m by omega, Int.fdiv_eq_ediv_of_nonneg m (show (0 : Int) ≤ 16777216 by omega), Int.fdiv_eq_ediv_of_nonneg m (show (0 : Int) ≤ 65536 by omega), Int.fdiv_eq_ediv_of_nonneg m (show (0 : Int) ≤ 256 by omega), byteI_nat, byteI_nat, byteI_nat, byteI_nat]
  omega

def szB (m : Int) (r : List UInt8) : List UInt8 := byteI ((IntKind.u32.wrap m).fdiv 16777216) :: byteI ((IntKind.u32.wrap m).fdiv 65536) :: byteI ((IntKind.u32.wrap m).fdiv 256) :: byteI (IntKind.u32.wrap m) :: r
def outA (d : List UInt8) : List UInt8 := 0 :: 83 :: 66 :: 208 :: szB (14 + d.length - 8) (0 :: 0 :: 0 :: 1 :: 160 :: byteI d.length :: d)
def outB (d : List UInt8) : List UInt8 := 0 :: 83 :: 66 :: 208 :: szB (17 + d.length - 8) (0 :: 0 :: 0 :: 1 :: 176 :: szB d.length d)
def kidC (d : List UInt8) : List AV := [.lit (.int .i64 18), .lit (.int .u64 0), .lit (.string ⟨d.toArray⟩), .lit (.slice none 0 0), .lit (.int .i64 0), .lit (.slice none 0 0)]
def descC : List AV := [.lit (.int .i64 5), .lit (.int .u64 66), .lit (.string ⟨#[]⟩), .lit (.slice none 0 0), .lit (.int .i64 0), .lit (.slice none 0 0)]
def wholeV : AV := .agg [.lit (.int .i64 21), .lit (.int .u64 0), .lit (.string ⟨#[]⟩), .own 0 0 1 none, .lit (.int .i64 0), .own 1 0 1 (some 1)]
def compR (d : List UInt8) : Row := .cells 53 12 (kidC d ++ [.lit (.int .i64 0), .lit (.int .u64 0), .lit (.string ⟨#[]⟩), .lit (.slice none 0 0), .lit (.int .i64 0), .lit (.slice none 0 0)])
def compV : AV := .agg [.lit (.int .u64 66), .own 0 0 1 (some 1)]

theorem writeA (d : List UInt8) (h0 : d.length > 0) (h1 : d.length ≤ 255) : ACalls Tryz.prog noG 7 [.bts d] [] (.tup [.bts (outA d), .lit (.bool true)]) [] := by
  have i := noData10
  have e := c7a d h0 h1 (by simp only [AllP]; repeat' (first | exact trivial | with_reducible apply And.intro | assumption | omega))
  have e2 := (e.freezeRet 0 rfl rfl).only [] rfl
  exact e2.cast rfl rfl (by simp [AV.frz, AV.frzL, frzOwn, AV.ren, AV.renL, List.take_of_length_le, outA, szB]) rfl

theorem writeB (d : List UInt8) (h0 : d.length > 255) (h1 : d.length ≤ 1000) : ACalls Tryz.prog noG 7 [.bts d] [] (.tup [.bts (outB d), .lit (.bool true)]) [] := by
  have i := noData10
  have w : IntKind.u64.wrap (d.length : Int) = d.length := by rw [wrapU64]; omega
  have e := c7b d h0 h1 (by simp only [AllP, w]; repeat' (first | exact trivial | with_reducible apply And.intro | assumption | omega))
  have e2 := (e.freezeRet 0 rfl rfl).only [] rfl
  exact e2.cast rfl rfl (by simp [AV.frz, AV.frzL, frzOwn, AV.ren, AV.renL, List.take_of_length_le, outB, szB]) rfl

theorem takeA (d : List UInt8) (h0 : d.length > 0) (h1 : d.length ≤ 255) : ACalls Tryz.prog noG 12 [.bts (outA d), .lit (.int .i64 10)] [] (.tup [wholeV, .bts [], .lit (.bool true)]) [.cells 30 6 (kidC d), .cells 30 6 descC] := by
  have w : IntKind.u64.wrap (d.length : Int) = d.length := by rw [wrapU64]; omega
  have w6 : IntKind.u64.wrap ((d.length : Int) + 1 + 1 + 1 + 1 + 1 + 1) = d.length + 6 := by rw [wrapU64]; omega
  have c1 := big1 (byteI d.length) d d.length (by omega) (by rw [byteI_nat]; omega)
  have c2 := big4 0 0 0 1 (160 :: byteI d.length :: d) 1 (by simp; omega) (by decide)
  have c3 := big4 _ _ _ _ (0 :: 0 :: 0 :: 1 :: 160 :: byteI d.length :: d) ((d.length : Int) + 6) (by simp; omega) (fourB (14 + d.length - 8) _ (by omega) (by omega) (by omega))
  have c4 := big1 66 (208 :: szB (14 + d.length - 8) (0 :: 0 :: 0 :: 1 :: 160 :: byteI d.length :: d)) 66 (by simp [szB]; omega) (by decide)
  have e := t12 d h0 h1 _ _ _ _ _ (by simp only [AllP, w, w6]; repeat' (first | exact trivial | with_reducible apply And.intro | exact c1 | exact c2 | exact c3 | exact c4 | omega))
  exact e.cast rfl rfl (by rw [List.drop_eq_nil_of_le (by simp; omega)]; rfl) rfl

theorem takeB (d : List UInt8) (h0 : d.length > 255) (h1 : d.length ≤ 1000) : ACalls Tryz.prog noG 12 [.bts (outB d), .lit (.int .i64 10)] [] (.tup [wholeV, .bts [], .lit (.bool true)]) [.cells 30 6 (kidC d), .cells 30 6 descC] := by
  have w : IntKind.u64.wrap (d.length : Int) = d.length := by rw [wrapU64]; omega
  have w6 : IntKind.u64.wrap ((d.length : Int) + 1 + 1 + 1 + 1 + 1 + 1 + 1 + 1 + 1) = d.length + 9 := by rw [wrapU64]; omega
  have c1 := big4 _ _ _ _ d d.length (by omega) (fourB d.length _ rfl (by omega) (by omega))
  have c2 := big4 0 0 0 1 (176 :: szB d.length d) 1 (by simp [szB]; omega) (by decide)
  have c3 := big4 _ _ _ _ (0 :: 0 :: 0 :: 1 :: 176 :: szB d.length d) ((d.length : Int) + 9) (by simp [szB]; omega) (fourB (17 + d.length - 8) _ (by omega) (by omega) (by omega))
  have c4 := big1 66 (208 :: szB (17 + d.length - 8) (0 :: 0 :: 0 :: 1 :: 176 :: szB d.length d)) 66 (by simp [szB]; omega) (by decide)
  have e := t12b d h0 h1 _ _ _ _ _ _ _ _ (by simp only [AllP, w, w6]; repeat' (first | exact trivial | with_reducible apply And.intro | exact c1 | exact c2 | exact c3 | exact c4 | omega))
  exact e.cast rfl rfl (by rw [List.drop_eq_nil_of_le (by simp; omega)]; rfl) rfl

theorem composedC (d out : List UInt8) (h : ACalls Tryz.prog noG 12 [.bts out, .lit (.int .i64 10)] [] (.tup [wholeV, .bts [], .lit (.bool true)]) [.cells 30 6 (kidC d), .cells 30 6 descC]) :
    ACalls Tryz.prog noG 8 [.bts out, .lit (.bool true), compV, .lit (.slice none 0 0)] [compR d] (.lit (.bool true)) [compR d] :=
  cm8 d out ⟨is16 d trivial, h, trivial⟩

theorem challengeOf (d : List UInt8) : ACalls Tryz.prog noG 9 [.bts d] [] compV [compR d] := f9c d trivial
end Go.Ax
