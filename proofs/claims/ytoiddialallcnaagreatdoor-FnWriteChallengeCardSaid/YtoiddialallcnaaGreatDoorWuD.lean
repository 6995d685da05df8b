/-
  laws.FnWriteUshort: what the function computes.
-/
import Derived.Test.YtoiddialallcnaaGreatDoorWuB
import Derived.Test.YtoiddialallcnaaGreatDoorWuC
set_option linter.unusedVariables false
set_option linter.unusedSimpArgs false
set_option maxRecDepth 100000
namespace Go.Ax
open Go.Proofs

theorem noData10 : IdleD Tryz.prog 10 := idle_of2 (fn := Tryz.f10) Tryz.func10 (by kernel_rfl) (by kernel_rfl) (fun ρ => by kernel_rfl) (by kernel_rfl)

theorem or16 (x y : UInt8) : (IntKind.u64.wrap (↑(BitVec.ofInt IntKind.u64.bits (IntKind.u64.wrap (IntKind.u64.wrap (↑((IntKind.u64.wrap (0 : Int) % (2 : Int) ^ IntKind.u64.bits).toNat ||| (IntKind.u64.wrap (↑x.toNat : Int) % (2 : Int) ^ IntKind.u64.bits).toNat) : Int) * (2 : Int) ^ Min.min 8 IntKind.u64.bits)) ||| BitVec.ofInt IntKind.u64.bits (IntKind.u64.wrap (↑y.toNat : Int))).toNat : Int)) = ((x.toNat * 256 + y.toNat : Nat) : Int) := by
  have hx : x.toNat < 256 := x.toNat_lt
  have hy : y.toNat < 256 := y.toNat_lt
  have e0 : (IntKind.u64.wrap (0 : Int) % (2 : Int) ^ IntKind.u64.bits).toNat = 0 := by decide
  have h64 : (2 : Int) ^ IntKind.u64.bits = 18446744073709551616 := by decide
  have e1 : (IntKind.u64.wrap (↑x.toNat : Int) % (2 : Int) ^ IntKind.u64.bits).toNat = x.toNat := by rw [wrapU64, h64]; omega
  have e2 : IntKind.u64.wrap (x.toNat : Int) = x.toNat := by rw [wrapU64]; omega
  rw [e0, e1, Nat.zero_or, e2]
  refine (or64 x.toNat y).trans ?_
  omega

theorem writeUshort (v : Int) (h0 : 0 ≤ v) (h1 : v < 65536) : ACalls Tryz.prog noG 5 [.lit (.int .u16 v)] [] (.tup [.bts [96, byteI (v / 256), byteI v], .lit (.bool true)]) [] := by
  have e := u5 v h0 h1 ⟨noData10, trivial⟩
  rw [Int.fdiv_eq_ediv_of_nonneg _ (by omega)] at e
  exact (e.freezeRet 0 rfl rfl).only [] rfl

theorem takeUshort (v : Int) (h0 : 0 ≤ v) (h1 : v < 65536) : ACalls Tryz.prog noG 12 [.bts [96, byteI (v / 256), byteI v], .lit (.int .i64 8)] [] (.tup [vpack 3 v, .bts [], .lit (.bool true)]) [] := by
  have e := u12 (byteI (v / 256)) (byteI v) trivial
  rw [or16, byteI_nat, byteI_nat] at e
  have h : (((v / 256 % 256).toNat * 256 + (v % 256).toNat : Nat) : Int) = v := by omega
  rw [h] at e
  exact e

theorem wroteV (k n : Int) (d : List UInt8) (h : ACalls Tryz.prog noG 12 [.bts d, .lit (.int .i64 8)] [] (.tup [vpack k n, .bts [], .lit (.bool true)]) []) : ACalls Tryz.prog noG 6 [.bts d, .lit (.bool true), vpack k n] [] (.lit (.bool true)) [] := by
  have s := u13 k n trivial
  exact u6 k n d (by simp only [AllP]; repeat' (first | exact trivial | with_reducible apply And.intro | assumption))

theorem fnWriteUshort (v : Int) (h0 : 0 ≤ v) (h1 : v < 65536) : ACalls Tryz.prog noG 3 [.lit (.int .u16 v)] [] (.lit (.bool true)) [] := by
  have a : ACalls Tryz.prog noG 5 [.lit (.int .u16 5)] [] (.tup [.bts [96, 0, 5], .lit (.bool true)]) [] := writeUshort 5 (by omega) (by omega)
  have b : ACalls Tryz.prog noG 6 [.bts [96, 0, 5], .lit (.bool true), vpack 3 5] [] (.lit (.bool true)) [] := wroteV 3 5 [96, 0, 5] (takeUshort 5 (by omega) (by omega))
  have c := writeUshort v h0 h1
  have d := wroteV 3 v _ (takeUshort v h0 h1)
  have w : IntKind.u64.wrap v = v := by rw [wrapU64]; omega
  exact u3 v h0 h1 v [96, byteI (v / 256), byteI v] (by simp only [AllP, w]; repeat' (first | exact trivial | with_reducible apply And.intro | assumption | exact Le.refl _ | rfl))
end Go.Ax
