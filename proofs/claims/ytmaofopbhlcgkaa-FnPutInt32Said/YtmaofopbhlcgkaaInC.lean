/-
  msgp.AppendInt64 of a number of 32 bits: its bytes behind those that are there.
-/
import Derived.Test.YtmaofopbhlcgkaaInB
import Derived.Test.YtmaofopbhlcgkaaUnD
set_option linter.unusedVariables false
set_option linter.unusedSimpArgs false
set_option maxRecDepth 100000
namespace Go.Ax
open Go.Proofs

def byteI (x : Int) : UInt8 := UInt8.ofNat (x % 256).toNat
theorem lit_byte (x : Int) : AV.lit (.int .u8 (x % 256)) = u8 (byteI x) := by
  simp only [u8, byteI, UInt8.toNat_ofNat']
  congr 2
  omega

theorem put8i (bs : List UInt8) (v : Int) : ACalls Try.prog noG 81 [.own 0 bs.length 2 none, .lit (.int .i8 v)] [.cells 5 1 (bs.map u8 ++ [.dead, .dead])] (.tup [])
    [.cells 5 1 (bs.map u8 ++ [.lit (.int .u8 208), .lit (.int .u8 (v % 256))])] := by
  refine (e81 bs v ?_).cast rfl rfl rfl ?_
  · simp [AllP, setL_one, set_behind, set_behind0, nth_behind]
  · simp [setL_one, set_behind, set_behind0, renL_behind, AV.renL, AV.ren, wrapU8]

theorem put16i (bs : List UInt8) (v : Int) : ACalls Try.prog noG 77 [.own 0 bs.length 3 none, .lit (.int .i16 v)] [.cells 5 1 (bs.map u8 ++ [.dead, .dead, .dead])] (.tup [])
    [.cells 5 1 (bs.map u8 ++ [.lit (.int .u8 209), .lit (.int .u8 (v / 256 % 256)), .lit (.int .u8 (v % 256))])] := by
  have f1 : v.fdiv 256 = v / 256 := by rw [Int.fdiv_eq_ediv_of_nonneg _ (by omega)]
  refine (e77 bs v ?_).cast rfl rfl rfl ?_
  · simp [AllP, setL_one, set_behind, set_behind0, nth_behind]
  · simp [setL_one, set_behind, set_behind0, renL_behind, AV.renL, AV.ren, wrapU8, f1]

theorem put32i (bs : List UInt8) (v : Int) : ACalls Try.prog noG 78 [.own 0 bs.length 5 none, .lit (.int .i32 v)] [.cells 5 1 (bs.map u8 ++ [.dead, .dead, .dead, .dead, .dead])] (.tup [])
    [.cells 5 1 (bs.map u8 ++ [.lit (.int .u8 210), .lit (.int .u8 (v / 16777216 % 256)), .lit (.int .u8 (v / 65536 % 256)), .lit (.int .u8 (v / 256 % 256)), .lit (.int .u8 (v % 256))])] := by
  have f1 : v.fdiv 256 = v / 256 := by rw [Int.fdiv_eq_ediv_of_nonneg _ (by omega)]
  have f2 : v.fdiv 65536 = v / 65536 := by rw [Int.fdiv_eq_ediv_of_nonneg _ (by omega)]
  have f3 : v.fdiv 16777216 = v / 16777216 := by rw [Int.fdiv_eq_ediv_of_nonneg _ (by omega)]
  refine (e78 bs v ?_).cast rfl rfl rfl ?_
  · simp [AllP, setL_one, set_behind, set_behind0, nth_behind]
  · simp [setL_one, set_behind, set_behind0, renL_behind, AV.renL, AV.ren, wrapU8, f1, f2, f3]

def enc3 (v : Int) : List UInt8 := [209, byteI (v / 256), byteI v]
def enc5 (v : Int) : List UInt8 := [210, byteI (v / 16777216), byteI (v / 65536), byteI (v / 256), byteI v]
/-- The bytes of a number of 32 bits with a sign, in MessagePack. -/
def encI (v : Int) : List UInt8 :=
  if 0 ≤ v then (if v ≤ 127 then [byteI v] else if v ≤ 32767 then enc3 v else enc5 v)
  else if -32 ≤ v then [byteI v] else if -128 ≤ v then [208, byteI v] else if -32768 ≤ v then enc3 v else enc5 v

theorem fixNeg (v : Int) (h0 : -32 ≤ v) (h1 : v < 0) : ACalls Try.prog noG 80 [.lit (.int .i8 v)] [] (.lit (.int .u8 (v % 256))) [] := by
  refine (e80 v trivial).cast rfl rfl ?_ rfl
  congr 2
  have : ∀ n : Fin 32, IntKind.u8.wrap (((BitVec.ofInt IntKind.u8.bits (IntKind.u8.wrap (-(n.val : Int) - 1)) ||| BitVec.ofInt IntKind.u8.bits 224).toNat : Nat) : Int) = (-(n.val : Int) - 1) % 256 := by decide
  have e := this ⟨(-v - 1).toNat, by omega⟩
  have hv : -(((-v - 1).toNat : Nat) : Int) - 1 = v := by omega
  simp only [hv] at e
  exact e

theorem wrap16 {v : Int} (h0 : -32768 ≤ v) (h1 : v < 32768) : IntKind.i16.wrap v = v := by
  simp only [IntKind.wrap, IntKind.bits, IntKind.signed]; simp; omega
theorem wrap8 {v : Int} (h0 : -128 ≤ v) (h1 : v < 128) : IntKind.i8.wrap v = v := by
  simp only [IntKind.wrap, IntKind.bits, IntKind.signed]; simp; omega
theorem wrap32 {v : Int} (h0 : -2147483648 ≤ v) (h1 : v < 2147483648) : IntKind.i32.wrap v = v := by
  simp only [IntKind.wrap, IntKind.bits, IntKind.signed]; simp; omega
end Go.Ax
