/-
  spec.takeBig: a number of some bytes, the highest first.
-/
import Derived.Test.YtmaofopbhlcgkaaTbB
import Derived.Test.YtmaofopbhlcgkaaPbC
set_option linter.unusedVariables false
set_option linter.unusedSimpArgs false
set_option maxRecDepth 100000
namespace Go.Ax
open Go.Proofs

def bigA : Nat → List UInt8 → Nat
  | u, [] => u
  | u, b :: l => bigA ((u * 256 + b.toNat) % 18446744073709551616) l

theorem wrapU64 (n : Int) : IntKind.u64.wrap n = n % 18446744073709551616 := by
  simp only [IntKind.wrap, IntKind.bits, IntKind.signed]
  simp

theorem or64 (u : Nat) (b : UInt8) : IntKind.u64.wrap (((BitVec.ofInt IntKind.u64.bits (IntKind.u64.wrap ((u : Int) * 2 ^ min (Int.toNat 8) IntKind.u64.bits)) ||| BitVec.ofInt IntKind.u64.bits (IntKind.u64.wrap (b.toNat : Int))).toNat : Nat) : Int)
    = (((u * 256 + b.toNat) % 18446744073709551616 : Nat) : Int) := by
  have hb : b.toNat < 256 := b.toNat_lt
  have e1 : (BitVec.ofInt IntKind.u64.bits (IntKind.u64.wrap ((u : Int) * 2 ^ min (Int.toNat 8) IntKind.u64.bits))).toNat = (u * 256) % 18446744073709551616 := by
    rw [BitVec.toNat_ofInt, wrapU64]
    have : min (Int.toNat 8) IntKind.u64.bits = 8 := by decide
    rw [this]
    have h64 : (2 : Int) ^ IntKind.u64.bits = 18446744073709551616 := by decide
    have h64' : ((2 ^ IntKind.u64.bits : Nat) : Int) = 18446744073709551616 := by decide
    rw [h64']
    omega
  have e2 : (BitVec.ofInt IntKind.u64.bits (IntKind.u64.wrap (b.toNat : Int))).toNat = b.toNat := by
    rw [BitVec.toNat_ofInt, wrapU64]
    have h64' : ((2 ^ IntKind.u64.bits : Nat) : Int) = 18446744073709551616 := by decide
    rw [h64']
    omega
  rw [BitVec.toNat_or, e1, e2]
  have e3 : (u * 256) % 18446744073709551616 = (u % 72057594037927936) <<< 8 := by
    rw [Nat.shiftLeft_eq]
    omega
  rw [e3, ← Nat.shiftLeft_add_eq_or_of_lt (by simpa using hb), Nat.shiftLeft_eq, wrapU64]
  omega

theorem bigA_lt : ∀ (l : List UInt8) (u : Nat), u < 18446744073709551616 → bigA u l < 18446744073709551616
  | [], u, h => h
  | b :: l, u, h => bigA_lt l _ (Nat.mod_lt _ (by decide))

theorem loop35g (es ds : List UInt8) (k : Int) (hl : es.length < 1000) : ∀ (n i u : Nat), es.length - i = n → i ≤ es.length →
    LoopC Try.prog noG 32 (loopAt Try.f35 0) [(16, .bts es), (17, .lit (.int .i64 es.length)), (18, .lit (.int .i64 i)), (7, .lit (.int .u64 u)), (0, .bts ds), (1, .lit (.int .i64 k))] []
      (.exit 0) [(7, .lit (.int .u64 (bigA u (es.drop i)))), (0, .bts ds), (1, .lit (.int .i64 k))] []
  | 0, i, u, hn, hi => by
    have he : i = es.length := by omega
    have := LoopC.exit (p35e es ds k u i (by simp [AllP]; omega)) (by simp)
    rw [he] at this ⊢
    simpa [bigA] using this
  | n + 1, i, u, hn, hi => by
    have hlt : i < es.length := by omega
    have h1 := p35s es ds k u i (by simp [AllP]; omega)
    have hw : IntKind.i64.wrap ((i : Int) + 1) = ((i + 1 : Nat) : Int) := by rw [wrap64 (by omega) (by omega)]; simp
    have hg : es.getD (i : Int).toNat 0 = es[i] := by simp [hlt]
    rw [hw, hg, or64] at h1
    have h2 := loop35g es ds k hl n (i + 1) ((u * 256 + es[i].toNat) % 18446744073709551616) (by omega) (by omega)
    have h3 := LoopC.step h1 h2
    rw [List.drop_eq_getElem_cons hlt]
    exact h3

theorem takeBig (ds : List UInt8) (k : Nat) (hk : k ≤ ds.length) (hk2 : k < 1000) :
    ACalls Try.prog noG 35 [.bts ds, .lit (.int .i64 k)] [] (.tup [.lit (.int .u64 (bigA 0 (ds.take k))), .bts (ds.drop k), .lit (.bool true)]) [] := by
  have hl : (ds.take k).length = k := by simp; omega
  have h0 := (loop35g (ds.take k) ds k (by omega) _ 0 0 rfl (Nat.zero_le _)).code
  simp only [List.drop_zero] at h0
  refine (e35g ds (ds.take k) k (bigA 0 (ds.take k)) ?_).cast rfl rfl ?_ rfl
  · simp [AllP, hl]
    refine ⟨by omega, by simpa [hl] using h0, by omega⟩
  · simp

theorem samePack3 (n : Int) : ACalls Try.prog noG 33 [zpack 3 n, zpack 3 n] [] (.lit (.bool true)) [] :=
  e33k n (by
    have hl : CodeC Try.prog noG 80 (.loop (loopAt Try.f33 0)) [(63, .lit (.int .i64 0)), (64, .lit (.int .i64 0))] [] (.exit 0) [] [] := (LoopC.exit (p33x ⟨rfl, trivial⟩) (by simp)).code
    simp [AllP, hl])
end Go.Ax
