/-
  Values of MessagePack: how many there are in one; whether one is a value; a value written in chosen forms.
-/
import Derived.Test.YtkbmfpkbegjhcaaSgB
set_option linter.unusedVariables false
set_option linter.unusedSimpArgs false
set_option maxRecDepth 100000
namespace Go.Ax
open Go.Proofs

theorem nul_le : Le (.agg (pcells .nul)) (.agg (mcells 0 0 .empty 0 0 (fun _ => .nul))) :=
  Le_agg ⟨Le.refl _, Le.refl _, Le.refl _, Le.refl _, Le_ro (fun i hi => absurd hi (Nat.not_lt_zero i)), trivial⟩

theorem wrapI (i : Nat) (h : i < 9223372036854775807) : IntKind.i64.wrap ((i : Int) + 1) = ((i + 1 : Nat) : Int) := by rw [wrap64 (by omega) (by omega)]; rfl

/-! ### How many -/
def sumN (g : Nat → Nat) : Nat → Nat → Nat
  | _, 0 => 0
  | i, m + 1 => g i + sumN g (i + 1) m

def PackT.cnt : PackT → Nat
  | .nul => 1
  | .mk _ _ _ _ n f => 1 + sumN (fun i => (f i).cnt) 0 n

theorem fewLoop (k u : Int) (t : ByteArray) (e : Int) (n : Nat) (f : Nat → PackT) (hn : n ≤ 9223372036854775807)
    (ih : ∀ i, i < n → ∀ m : Nat, m ≤ 1000000 → ACalls Try.prog noG 20 [pAV (f i), .ptr 0 0] [.cells 3 1 [.lit (.int .i64 m)]] (.lit (.bool (decide ((f i).cnt ≤ m)))) [.cells 3 1 [.lit (.int .i64 (if (f i).cnt ≤ m then (m : Int) - (f i).cnt else -1))]]) :
    ∀ (r i m : Nat), m ≤ 1000000 → n - i = r → i ≤ n →
      (sumN (fun i => (f i).cnt) i r ≤ m → LoopC Try.prog noG 30 (loopAt Try.f20 0) [(1, .ptr 0 0), (2, .ptr 1 0), (5, .lit (.int .i64 i))] [.cells 3 1 [.lit (.int .i64 m)], .cells 28 5 (mcells k u t e n f)] (.exit 0) [(1, .ptr 0 0)] [.cells 3 1 [.lit (.int .i64 ((m : Int) - sumN (fun i => (f i).cnt) i r))], .cells 28 5 (mcells k u t e n f)]) ∧
      (¬ sumN (fun i => (f i).cnt) i r ≤ m → LoopC Try.prog noG 30 (loopAt Try.f20 0) [(1, .ptr 0 0), (2, .ptr 1 0), (5, .lit (.int .i64 i))] [.cells 3 1 [.lit (.int .i64 m)], .cells 28 5 (mcells k u t e n f)] .ret [(4, .lit (.bool false))] [.cells 3 1 [.lit (.int .i64 (-1))], .cells 28 5 (mcells k u t e n f)])
  | 0, i, m, hm, hr, hi => by
    have hd : decide ((i : Int) < n) = false := by simp; omega
    refine ⟨fun _ => ?_, fun h => absurd (Nat.zero_le m) h⟩
    have := LoopC.exit (fpx k u t e n f m m i ⟨hd, trivial⟩) (by simp)
    have e0 : ((m : Int) - (sumN (fun i => (f i).cnt) i 0 : Nat)) = m := by simp [sumN]
    rw [e0]
    exact this
  | r + 1, i, m, hm, hr, hi => by
    have hlt : i < n := by omega
    have hd : decide ((i : Int) < n) = true := by simp; omega
    have hb : (0 : Int) ≤ i ∧ (i : Int) < n := by omega
    have hc := ih i hlt m hm
    have w := wrapI i (by omega)
    by_cases h1 : (f i).cnt ≤ m
    · simp only [h1, decide_true, if_true] at hc
      have e1 : ((m - (f i).cnt : Nat) : Int) = (m : Int) - (f i).cnt := by omega
      rw [← e1] at hc
      have st := fpl k u t e n f m ((m - (f i).cnt : Nat) : Int) i ⟨hc, ⟨Le.refl _, Le.refl _, trivial⟩, hb, hd, trivial⟩
      rw [w] at st
      obtain ⟨a, b⟩ := fewLoop k u t e n f hn ih r (i + 1) (m - (f i).cnt) (by omega) (by omega) (by omega)
      have e2 : sumN (fun i => (f i).cnt) i (r + 1) = (f i).cnt + sumN (fun i => (f i).cnt) (i + 1) r := rfl
      rw [e2]
      refine ⟨fun h => ?_, fun h => LoopC.step st (b (by omega))⟩
      have := LoopC.step st (a (by omega))
      rw [show ((m : Int) - ((f i).cnt + sumN (fun i => (f i).cnt) (i + 1) r : Nat)) = ((m - (f i).cnt : Nat) : Int) - (sumN (fun i => (f i).cnt) (i + 1) r : Nat) by omega]
      exact this
    · simp only [h1, decide_false, if_false] at hc
      refine ⟨fun h => absurd h (by simp only [sumN]; omega), fun _ => ?_⟩
      exact LoopC.exit (fpr k u t e n f m (-1) i ⟨hc, ⟨Le.refl _, Le.refl _, trivial⟩, hb, hd, trivial⟩) (by simp)

theorem few_mk (k u : Int) (t : ByteArray) (e : Int) (n : Nat) (f : Nat → PackT) (hn : n ≤ 9223372036854775807)
    (ih : ∀ i, i < n → ∀ m : Nat, m ≤ 1000000 → ACalls Try.prog noG 20 [pAV (f i), .ptr 0 0] [.cells 3 1 [.lit (.int .i64 m)]] (.lit (.bool (decide ((f i).cnt ≤ m)))) [.cells 3 1 [.lit (.int .i64 (if (f i).cnt ≤ m then (m : Int) - (f i).cnt else -1))]])
    (m : Nat) (hm : m ≤ 1000000) : ACalls Try.prog noG 20 [.agg (mcells k u t e n f), .ptr 0 0] [.cells 3 1 [.lit (.int .i64 m)]] (.lit (.bool (decide (1 + sumN (fun i => (f i).cnt) 0 n ≤ m))))
      [.cells 3 1 [.lit (.int .i64 (if 1 + sumN (fun i => (f i).cnt) 0 n ≤ m then (m : Int) - (1 + sumN (fun i => (f i).cnt) 0 n : Nat) else -1))]] := by
  cases m with
  | zero => exact (fpa k u t e n f 0 ⟨by decide, trivial⟩).cast rfl rfl (by simp) (by simp; decide)
  | succ m =>
    have w : IntKind.i64.wrap (((m + 1 : Nat) : Int) - 1) = (m : Int) := by rw [wrap64 (by omega) (by omega)]; omega
    have e1 : ((m + 1 : Nat) : Int) - 1 = (m : Int) := by omega
    obtain ⟨a, b⟩ := fewLoop k u t e n f hn ih n 0 m (by omega) (by omega) (by omega)
    have hd : decide ((m : Int) < 0) = false := by simp
    by_cases h : sumN (fun i => (f i).cnt) 0 n ≤ m
    · have h' : 1 + sumN (fun i => (f i).cnt) 0 n ≤ m + 1 := by omega
      have := fpb k u t e n f ((m + 1 : Nat) : Int) ((m : Int) - sumN (fun i => (f i).cnt) 0 n) ⟨by rw [e1]; exact (a h).code, by rw [w, e1]; exact ⟨RowLe.refl _, RowLe.refl _, trivial⟩, by rw [w]; exact hd, trivial⟩
      exact this.cast rfl rfl (by simp [h']) (by simp [h']; omega)
    · have h' : ¬ 1 + sumN (fun i => (f i).cnt) 0 n ≤ m + 1 := by omega
      have := fpc k u t e n f ((m + 1 : Nat) : Int) (-1) ⟨by rw [e1]; exact (b h).code, by rw [w, e1]; exact ⟨RowLe.refl _, RowLe.refl _, trivial⟩, by rw [w]; exact hd, trivial⟩
      exact this.cast rfl rfl (by simp [h']) (by simp [h'])
end Go.Ax
