/-
  spec.takeBig, by a contract.
-/
import Derived.Test.YtemlccbnicdfgaaDoorTkB
set_option linter.unusedVariables false
set_option linter.unusedSimpArgs false
set_option maxRecDepth 100000
namespace Go.Ax
open Go.Proofs

theorem loop35g (es ds : List UInt8) (k : Int) (hl : es.length < 1000) : ∀ (n i u : Nat), es.length - i = n → i ≤ es.length →
    LoopC Tryd.prog noG 32 (loopAt Tryd.f28 0) [(16, .bts es), (17, .lit (.int .i64 es.length)), (18, .lit (.int .i64 i)), (7, .lit (.int .u64 u)), (0, .bts ds), (1, .lit (.int .i64 k))] []
      (.exit 0) [(7, .lit (.int .u64 (bigA u (es.drop i)))), (0, .bts ds), (1, .lit (.int .i64 k))] []
  | 0, i, u, hn, hi => by
    have he : i = es.length := by omega
    have := LoopC.exit (p35e es ds k u i (by simp [AllP]; omega)) (by simp)
    rw [he] at this ⊢
    simpa [bigA] using this
  | n + 1, i, u, hn, hi => by
    have hlt : i < es.length := by omega
    have h1 := p35s es ds k u i (by simp [AllP]; omega)
    have hw : IntKind.i64.wrap ((i : Int) + 1) = ((i + 1 : Nat) : Int) := by rw [wrap64 (by omega) (by omega)]; simp
    have hg : es.getD (i : Int).toNat 0 = es[i] := by simp [hlt]
    rw [hw, hg, or64] at h1
    have h2 := loop35g es ds k hl n (i + 1) ((u * 256 + es[i].toNat) % 18446744073709551616) (by omega) (by omega)
    have h3 := LoopC.step h1 h2
    rw [List.drop_eq_getElem_cons hlt]
    exact h3

theorem takeBig (ds : List UInt8) (k : Nat) (hk : k ≤ ds.length) (hk2 : k < 1000) :
    ACalls Tryd.prog noG 28 [.bts ds, .lit (.int .i64 k)] [] (.tup [.lit (.int .u64 (bigA 0 (ds.take k))), .bts (ds.drop k), .lit (.bool true)]) [] := by
  have hl : (ds.take k).length = k := by simp; omega
  have h0 := (loop35g (ds.take k) ds k (by omega) _ 0 0 rfl (Nat.zero_le _)).code
  simp only [List.drop_zero] at h0
  refine (e35g ds (ds.take k) k (bigA 0 (ds.take k)) ?_).cast rfl rfl ?_ rfl
  · simp [AllP, hl]
    refine ⟨by omega, by simpa [hl] using h0, by omega⟩
  · simp
end Go.Ax
