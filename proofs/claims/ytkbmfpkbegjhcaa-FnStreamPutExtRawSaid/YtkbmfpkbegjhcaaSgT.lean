/-
  spec.takeBig: a number of some bytes, the highest first.
-/
import Derived.Test.YtkbmfpkbegjhcaaSgA
import Derived.Test.YtkbmfpkbegjhcaaProg
import Derived.Test.YtkbmfpkbegjhcaaPk
set_option linter.unusedVariables false
set_option linter.unusedSimpArgs false
set_option maxRecDepth 100000
namespace Go.Ax
open Go.Proofs
theorem p35s_pv (es ds : List UInt8) (k u : Int) (i : Nat) : evPiece Try.prog noG 32 (loopAt Try.f41 0) [(16, .bts es), (17, .lit (.int .i64 es.length)), (18, .lit (.int .i64 i)), (7, .lit (.int .u64 u)), (0, .bts ds), (1, .lit (.int .i64 k))] [] ([.bit true] ++ [.fin []]) [16, 17, 18, 7, 0, 1] = some (AExit.normal, [(16, AV.bts es), (17, AV.lit (Go.Value.int Go.IntKind.i64 (↑es.length : Int))), (18, AV.lit (Go.Value.int Go.IntKind.i64 (Go.IntKind.i64.wrap ((↑i : Int) + (1 : Int))))), (7, AV.lit (Go.Value.int Go.IntKind.u64 (Go.IntKind.u64.wrap (↑(BitVec.ofInt Go.IntKind.u64.bits (Go.IntKind.u64.wrap (u * (2 : Int) ^ Min.min (Int.toNat (8 : Int)) Go.IntKind.u64.bits)) ||| BitVec.ofInt Go.IntKind.u64.bits (Go.IntKind.u64.wrap (↑(es.getD (↑i : Int).toNat (0 : UInt8)).toNat : Int))).toNat : Int)))), (0, AV.bts ds), (1, AV.lit (Go.Value.int Go.IntKind.i64 k))], [], [(0 : Int) ≤ (8 : Int), (0 : Int) ≤ (↑i : Int) ∧ (↑i : Int) < (↑es.length : Int), Decidable.decide ((↑i : Int) < (↑es.length : Int)) = Bool.true]) := by kernel_rfl
theorem p35s (es ds : List UInt8) (k u : Int) (i : Nat) (hC : AllP ([(0 : Int) ≤ (8 : Int), (0 : Int) ≤ (↑i : Int) ∧ (↑i : Int) < (↑es.length : Int), Decidable.decide ((↑i : Int) < (↑es.length : Int)) = Bool.true])) : CodeC Try.prog noG 32 (loopAt Try.f41 0) [(16, .bts es), (17, .lit (.int .i64 es.length)), (18, .lit (.int .i64 i)), (7, .lit (.int .u64 u)), (0, .bts ds), (1, .lit (.int .i64 k))] [] (AExit.normal) ([(16, AV.bts es), (17, AV.lit (Go.Value.int Go.IntKind.i64 (↑es.length : Int))), (18, AV.lit (Go.Value.int Go.IntKind.i64 (Go.IntKind.i64.wrap ((↑i : Int) + (1 : Int))))), (7, AV.lit (Go.Value.int Go.IntKind.u64 (Go.IntKind.u64.wrap (↑(BitVec.ofInt Go.IntKind.u64.bits (Go.IntKind.u64.wrap (u * (2 : Int) ^ Min.min (Int.toNat (8 : Int)) Go.IntKind.u64.bits)) ||| BitVec.ofInt Go.IntKind.u64.bits (Go.IntKind.u64.wrap (↑(es.getD (↑i : Int).toNat (0 : UInt8)).toNat : Int))).toNat : Int)))), (0, AV.bts ds), (1, AV.lit (Go.Value.int Go.IntKind.i64 k))]) ([]) := CodeC_ev (by kernel_rfl) (p35s_pv es ds k u i) hC
theorem p35e_pv (es ds : List UInt8) (k u : Int) (i : Nat) : evPiece Try.prog noG 32 (loopAt Try.f41 0) [(16, .bts es), (17, .lit (.int .i64 es.length)), (18, .lit (.int .i64 i)), (7, .lit (.int .u64 u)), (0, .bts ds), (1, .lit (.int .i64 k))] [] ([.bit false] ++ [.fin []]) [7, 0, 1] = some (AExit.exit 0, [(7, AV.lit (Go.Value.int Go.IntKind.u64 u)), (0, AV.bts ds), (1, AV.lit (Go.Value.int Go.IntKind.i64 k))], [], [Decidable.decide ((↑i : Int) < (↑es.length : Int)) = Bool.false]) := by kernel_rfl
theorem p35e (es ds : List UInt8) (k u : Int) (i : Nat) (hC : AllP ([Decidable.decide ((↑i : Int) < (↑es.length : Int)) = Bool.false])) : CodeC Try.prog noG 32 (loopAt Try.f41 0) [(16, .bts es), (17, .lit (.int .i64 es.length)), (18, .lit (.int .i64 i)), (7, .lit (.int .u64 u)), (0, .bts ds), (1, .lit (.int .i64 k))] [] (AExit.exit 0) ([(7, AV.lit (Go.Value.int Go.IntKind.u64 u)), (0, AV.bts ds), (1, AV.lit (Go.Value.int Go.IntKind.i64 k))]) ([]) := CodeC_ev (by kernel_rfl) (p35e_pv es ds k u i) hC
theorem e35g_ev (ds es : List UInt8) (k : Nat) (u : Int) : evFun Try.prog noG Try.f41 [.bts ds, .lit (.int .i64 k)] [] ([.bit false, .loop [] [(16, .bts es), (17, .lit (.int .i64 es.length)), (18, .lit (.int .i64 0)), (7, .lit (.int .u64 0)), (0, .bts ds), (1, .lit (.int .i64 k))] [] (.exit 0) [(7, .lit (.int .u64 u)), (0, .bts ds), (1, .lit (.int .i64 k))] []] ++ [.fin []]) = some (AV.tup [AV.lit (Go.Value.int Go.IntKind.u64 u), AV.bts (List.drop (↑k : Int).toNat (List.take (↑ds.length : Int).toNat ds)), AV.lit (Go.Value.bool Bool.true)], [], [(0 : Int) ≤ (↑k : Int) ∧ (↑k : Int) ≤ (↑ds.length : Int) ∧ (↑ds.length : Int) ≤ (↑ds.length : Int), CodeC Try.prog noG 32 (loopAt Try.f41 (0 : Nat)).loop [(16, AV.bts es), (17, AV.lit (Go.Value.int Go.IntKind.i64 (↑es.length : Int))), (18, AV.lit (Go.Value.int Go.IntKind.i64 (0 : Int))), (7, AV.lit (Go.Value.int Go.IntKind.u64 (0 : Int))), (0, AV.bts ds), (1, AV.lit (Go.Value.int Go.IntKind.i64 (↑k : Int)))] [] (AExit.exit 0) [(7, AV.lit (Go.Value.int Go.IntKind.u64 u)), (0, AV.bts ds), (1, AV.lit (Go.Value.int Go.IntKind.i64 (↑k : Int)))] [], Le (AV.bts (List.drop 0 (List.take (↑k : Int).toNat ds))) (AV.bts es) ∧ Le (AV.lit (Go.Value.int Go.IntKind.i64 (↑(List.drop 0 (List.take (↑k : Int).toNat ds)).length : Int))) (AV.lit (Go.Value.int Go.IntKind.i64 (↑es.length : Int))) ∧ Le (AV.lit (Go.Value.int Go.IntKind.i64 (0 : Int))) (AV.lit (Go.Value.int Go.IntKind.i64 (0 : Int))) ∧ Le (AV.lit (Go.Value.int Go.IntKind.u64 (0 : Int))) (AV.lit (Go.Value.int Go.IntKind.u64 (0 : Int))) ∧ Le (AV.bts ds) (AV.bts ds) ∧ Le (AV.lit (Go.Value.int Go.IntKind.i64 (↑k : Int))) (AV.lit (Go.Value.int Go.IntKind.i64 (↑k : Int))) ∧ True, True, (0 : Int) ≤ (0 : Int) ∧ (0 : Int) ≤ (↑k : Int) ∧ (↑k : Int) ≤ (↑ds.length : Int), Decidable.decide ((↑ds.length : Int) < (↑k : Int)) = Bool.false]) := by kernel_rfl
theorem e35g (ds es : List UInt8) (k : Nat) (u : Int) (hC : AllP ([(0 : Int) ≤ (↑k : Int) ∧ (↑k : Int) ≤ (↑ds.length : Int) ∧ (↑ds.length : Int) ≤ (↑ds.length : Int), CodeC Try.prog noG 32 (loopAt Try.f41 (0 : Nat)).loop [(16, AV.bts es), (17, AV.lit (Go.Value.int Go.IntKind.i64 (↑es.length : Int))), (18, AV.lit (Go.Value.int Go.IntKind.i64 (0 : Int))), (7, AV.lit (Go.Value.int Go.IntKind.u64 (0 : Int))), (0, AV.bts ds), (1, AV.lit (Go.Value.int Go.IntKind.i64 (↑k : Int)))] [] (AExit.exit 0) [(7, AV.lit (Go.Value.int Go.IntKind.u64 u)), (0, AV.bts ds), (1, AV.lit (Go.Value.int Go.IntKind.i64 (↑k : Int)))] [], Le (AV.bts (List.drop 0 (List.take (↑k : Int).toNat ds))) (AV.bts es) ∧ Le (AV.lit (Go.Value.int Go.IntKind.i64 (↑(List.drop 0 (List.take (↑k : Int).toNat ds)).length : Int))) (AV.lit (Go.Value.int Go.IntKind.i64 (↑es.length : Int))) ∧ Le (AV.lit (Go.Value.int Go.IntKind.i64 (0 : Int))) (AV.lit (Go.Value.int Go.IntKind.i64 (0 : Int))) ∧ Le (AV.lit (Go.Value.int Go.IntKind.u64 (0 : Int))) (AV.lit (Go.Value.int Go.IntKind.u64 (0 : Int))) ∧ Le (AV.bts ds) (AV.bts ds) ∧ Le (AV.lit (Go.Value.int Go.IntKind.i64 (↑k : Int))) (AV.lit (Go.Value.int Go.IntKind.i64 (↑k : Int))) ∧ True, True, (0 : Int) ≤ (0 : Int) ∧ (0 : Int) ≤ (↑k : Int) ∧ (↑k : Int) ≤ (↑ds.length : Int), Decidable.decide ((↑ds.length : Int) < (↑k : Int)) = Bool.false])) : ACalls Try.prog noG 41 [.bts ds, .lit (.int .i64 k)] [] (AV.tup [AV.lit (Go.Value.int Go.IntKind.u64 u), AV.bts (List.drop (↑k : Int).toNat (List.take (↑ds.length : Int).toNat ds)), AV.lit (Go.Value.bool Bool.true)]) ([]) := ACalls_ev (by kernel_rfl) Try.func41 (by kernel_rfl) (e35g_ev ds es k u) hC
theorem loop35g (es ds : List UInt8) (k : Int) (hl : es.length < 1000) : ∀ (n i u : Nat), es.length - i = n → i ≤ es.length →
    LoopC Try.prog noG 32 (loopAt Try.f41 0) [(16, .bts es), (17, .lit (.int .i64 es.length)), (18, .lit (.int .i64 i)), (7, .lit (.int .u64 u)), (0, .bts ds), (1, .lit (.int .i64 k))] []
      (.exit 0) [(7, .lit (.int .u64 (bigA u (es.drop i)))), (0, .bts ds), (1, .lit (.int .i64 k))] []
  | 0, i, u, hn, hi => by
    have he : i = es.length := by omega
    have := LoopC.exit (p35e es ds k u i (by simp [AllP]; omega)) (by simp)
    rw [he] at this ⊢
    simpa [bigA] using this
  | n + 1, i, u, hn, hi => by
    have hlt : i < es.length := by omega
    have h1 := p35s es ds k u i (by simp [AllP]; omega)
    have hw : IntKind.i64.wrap ((i : Int) + 1) = ((i + 1 : Nat) : Int) := by rw [wrap64 (by omega) (by omega)]; simp
    have hg : es.getD (i : Int).toNat 0 = es[i] := by simp [hlt]
    rw [hw, hg, or64] at h1
    have h2 := loop35g es ds k hl n (i + 1) ((u * 256 + es[i].toNat) % 18446744073709551616) (by omega) (by omega)
    have h3 := LoopC.step h1 h2
    rw [List.drop_eq_getElem_cons hlt]
    exact h3

theorem takeBig (ds : List UInt8) (k : Nat) (hk : k ≤ ds.length) (hk2 : k < 1000) :
    ACalls Try.prog noG 41 [.bts ds, .lit (.int .i64 k)] [] (.tup [.lit (.int .u64 (bigA 0 (ds.take k))), .bts (ds.drop k), .lit (.bool true)]) [] := by
  have hl : (ds.take k).length = k := by simp; omega
  have h0 := (loop35g (ds.take k) ds k (by omega) _ 0 0 rfl (Nat.zero_le _)).code
  simp only [List.drop_zero] at h0
  refine (e35g ds (ds.take k) k (bigA 0 (ds.take k)) ?_).cast rfl rfl ?_ rfl
  · simp [AllP, hl]
    refine ⟨by omega, by simpa [hl] using h0, by omega⟩
  · simp

end Go.Ax
