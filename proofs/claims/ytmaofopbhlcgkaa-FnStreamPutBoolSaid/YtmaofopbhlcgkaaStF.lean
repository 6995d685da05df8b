/-
  laws.FnStreamPutBinHead, by a contract.
-/
import Derived.Test.YtmaofopbhlcgkaaStE
import Derived.Test.YtmaofopbhlcgkaaAx27
set_option linter.unusedVariables false
set_option linter.unusedSimpArgs false
set_option maxRecDepth 100000
namespace Go.Ax
open Go.Proofs

theorem buffersT (a : Int) (h1 : 18 ≤ a) (h2 : a ≤ 65536) : ACalls Try.prog noG 25 [.lit (.int .i64 a), .lit (.int .i64 1)] [] (.lit (.bool true)) [] :=
  (bufc a (by simp [AllP, h1, h2])).cast rfl rfl (by simp [h1, h2]) rfl
theorem buffersF (a : Int) (h : ¬ (18 ≤ a ∧ a ≤ 65536)) : ACalls Try.prog noG 25 [.lit (.int .i64 a), .lit (.int .i64 1)] [] (.lit (.bool false)) [] := by
  by_cases h1 : 18 ≤ a
  · have h2 : ¬ a ≤ 65536 := fun h2 => h ⟨h1, h2⟩
    exact (bufb a (by simp [AllP, h1]; omega)).cast rfl rfl (by simp [h1]) rfl
  · exact (bufa a (by simp [AllP]; omega)).cast rfl rfl (by simp) rfl

theorem awakeH : ACalls Try.prog noG 28 [.lit (.int .i64 100), .own 0 0 1 (some 1)] [.cells 32 1 [.lit (.int .u32 5)]] (.tup [.bts [196, 5], .lit (.bool true)]) [.gone] := by
  refine ACalls.freezeArg 0 (r := .cells 32 1 [.lit (.int .u32 5)]) rfl rfl ?_
  have h := streamH [5] (by simp) (by simp) 100 (by omega) (by omega)
  refine ((h.le (args' := [.lit (.int .i64 100), .ro 1 1 (fun i => (([AV.lit (.int .u32 5)]).drop (0 + i * 1)).take 1)]) ?_ (Le.refl _) rfl).frame [.gone] ?_ rfl).cast rfl rfl rfl rfl
  · exact ⟨Le.refl _, Le_ro fun i hi => by have : i = 0 := by omega
                                           subst this; rfl, trivial⟩
  · exact ⟨Le.refl _, Le.refl _, trivial⟩

theorem fnStreamPutBinHead (a : Int) (l : List Nat) (hv : ∀ x ∈ l, x < 4294967296) : ACalls Try.prog noG 10 [.lit (.int .i64 a), roH l] [] (.lit (.bool true)) [] := by
  by_cases h1 : (2147483647 : Int) < l.length
  · exact h10a a l (by simp [AllP, h1])
  · have d0 : Decidable.decide ((l.length : Int) > 2147483647) = false := by simp; omega
    have aw := awakeH
    by_cases hb : 18 ≤ a ∧ a ≤ 65536
    · obtain ⟨n, rfl⟩ := Int.eq_ofNat_of_zero_le (show 0 ≤ a by omega)
      have b := buffersT n hb.1 hb.2
      by_cases h2 : l.length ≤ 100
      · have s := streamH l (by omega) hv n (by omega) (by omega)
        have o := headsInOrder l (by omega) hv
        refine (h10d n l (l.flatMap headB) ?_).cast rfl rfl (by simp) rfl
        simp only [AllP, leAll, d0]
        simp
        exact ⟨o, s, by omega, b, aw⟩
      · refine (h10c n l ?_).cast rfl rfl (by simp) rfl
        simp only [AllP, leAll, d0]
        simp
        exact ⟨by omega, b, aw⟩
    · have b := buffersF a hb
      refine (h10b a l ?_).cast rfl rfl (by simp) rfl
      simp only [AllP, leAll, d0]
      simp
      exact ⟨b, aw⟩
end Go.Ax
