/-
  Values of AMQP: how many there are in one, as fewValues counts them.
-/
import Derived.Test.YtbdfpnhcincimaaDoorVaB
set_option linter.unusedVariables false
set_option linter.unusedSimpArgs false
set_option maxRecDepth 100000
namespace Go.Ax
open Go.Proofs

theorem vnul_le : Le (.agg (vcl .nul)) (.agg (vmk 0 0 .empty 0 (fun _ => .nul) 0 0 (fun _ => .nul))) :=
  Le_agg ⟨Le.refl _, Le.refl _, Le.refl _, Le_ro (fun i hi => absurd hi (Nat.not_lt_zero i)), Le.refl _, Le_ro (fun i hi => absurd hi (Nat.not_lt_zero i)), trivial⟩

theorem wrapI (i : Nat) (h : i < 9223372036854775807) : IntKind.i64.wrap ((i : Int) + 1) = ((i + 1 : Nat) : Int) := by rw [wrap64 (by omega) (by omega)]; rfl

def sumN (g : Nat → Nat) : Nat → Nat → Nat
  | _, 0 => 0
  | i, m + 1 => g i + sumN g (i + 1) m

def ValT.cnt : ValT → Nat
  | .nul => 1
  | .mk _ _ _ n f _ d g => 1 + sumN (fun i => (f i).cnt) 0 n + sumN (fun i => (g i).cnt) 0 d

abbrev LF (m : Int) : Row := .cells 3 1 [.lit (.int .i64 m)]

theorem few0 (k u : Int) (t : ByteArray) (n : Nat) (f : Nat → ValT) (o : Int) (d : Nat) (g : Nat → ValT) (hn : n ≤ 9223372036854775807)
    (ih : ∀ i, i < n → ∀ m : Nat, m ≤ 1000000 → ACalls Tryd.prog noG 80 [vAV (f i), .ptr 0 0] [LF m] (.lit (.bool (decide ((f i).cnt ≤ m)))) [LF (if (f i).cnt ≤ m then (m : Int) - (f i).cnt else -1)]) :
    ∀ (r i m : Nat), m ≤ 1000000 → n - i = r → i ≤ n →
      (sumN (fun i => (f i).cnt) i r ≤ m → LoopC Tryd.prog noG 46 (loopAt Tryd.f80 0) [(1, .ptr 0 0), (2, .ptr 1 0), (5, .lit (.int .i64 i))] [LF m, .cells 25 6 (vmk k u t n f o d g)] (.exit 0) [(1, .ptr 0 0), (2, .ptr 1 0)] [LF ((m : Int) - sumN (fun i => (f i).cnt) i r), .cells 25 6 (vmk k u t n f o d g)]) ∧
      (¬ sumN (fun i => (f i).cnt) i r ≤ m → LoopC Tryd.prog noG 46 (loopAt Tryd.f80 0) [(1, .ptr 0 0), (2, .ptr 1 0), (5, .lit (.int .i64 i))] [LF m, .cells 25 6 (vmk k u t n f o d g)] .ret [(4, .lit (.bool false))] [LF (-1), .cells 25 6 (vmk k u t n f o d g)])
  | 0, i, m, hm, hr, hi => by
    have hd : decide ((i : Int) < n) = false := by simp; omega
    refine ⟨fun _ => ?_, fun h => absurd (Nat.zero_le m) h⟩
    have := LoopC.exit (vgx k u t n f o d g m i ⟨hd, trivial⟩) (by simp)
    have e0 : ((m : Int) - (sumN (fun i => (f i).cnt) i 0 : Nat)) = m := by simp [sumN]
    rw [e0]
    exact this
  | r + 1, i, m, hm, hr, hi => by
    have hlt : i < n := by omega
    have hd : decide ((i : Int) < n) = true := by simp; omega
    have hb : (0 : Int) ≤ i ∧ (i : Int) < n := by omega
    have hc := ih i hlt m hm
    have w := wrapI i (by omega)
    by_cases h1 : (f i).cnt ≤ m
    · simp only [h1, decide_true, if_true] at hc
      have e1 : ((m - (f i).cnt : Nat) : Int) = (m : Int) - (f i).cnt := by omega
      rw [← e1] at hc
      have st := vgl k u t n f o d g m ((m - (f i).cnt : Nat) : Int) i ⟨hc, ⟨Le.refl _, Le.refl _, trivial⟩, hb, hd, trivial⟩
      rw [w] at st
      obtain ⟨a, b⟩ := few0 k u t n f o d g hn ih r (i + 1) (m - (f i).cnt) (by omega) (by omega) (by omega)
      have e2 : sumN (fun i => (f i).cnt) i (r + 1) = (f i).cnt + sumN (fun i => (f i).cnt) (i + 1) r := rfl
      rw [e2]
      refine ⟨fun h => ?_, fun h => LoopC.step st (b (by omega))⟩
      have := LoopC.step st (a (by omega))
      rw [show ((m : Int) - ((f i).cnt + sumN (fun i => (f i).cnt) (i + 1) r : Nat)) = ((m - (f i).cnt : Nat) : Int) - (sumN (fun i => (f i).cnt) (i + 1) r : Nat) by omega]
      exact this
    · simp only [h1, decide_false, if_false] at hc
      refine ⟨fun h => absurd h (by simp only [sumN]; omega), fun _ => ?_⟩
      exact LoopC.exit (vgr k u t n f o d g m (-1) i ⟨hc, ⟨Le.refl _, Le.refl _, trivial⟩, hb, hd, trivial⟩) (by simp)

theorem few1 (k u : Int) (t : ByteArray) (n : Nat) (f : Nat → ValT) (o : Int) (d : Nat) (g : Nat → ValT) (hn : d ≤ 9223372036854775807)
    (ih : ∀ i, i < d → ∀ m : Nat, m ≤ 1000000 → ACalls Tryd.prog noG 80 [vAV (g i), .ptr 0 0] [LF m] (.lit (.bool (decide ((g i).cnt ≤ m)))) [LF (if (g i).cnt ≤ m then (m : Int) - (g i).cnt else -1)]) :
    ∀ (r i m : Nat), m ≤ 1000000 → d - i = r → i ≤ d →
      (sumN (fun i => (g i).cnt) i r ≤ m → LoopC Tryd.prog noG 46 (loopAt Tryd.f80 1) [(1, .ptr 0 0), (2, .ptr 1 0), (6, .lit (.int .i64 i))] [LF m, .cells 25 6 (vmk k u t n f o d g)] (.exit 2) [(1, .ptr 0 0)] [LF ((m : Int) - sumN (fun i => (g i).cnt) i r), .cells 25 6 (vmk k u t n f o d g)]) ∧
      (¬ sumN (fun i => (g i).cnt) i r ≤ m → LoopC Tryd.prog noG 46 (loopAt Tryd.f80 1) [(1, .ptr 0 0), (2, .ptr 1 0), (6, .lit (.int .i64 i))] [LF m, .cells 25 6 (vmk k u t n f o d g)] .ret [(4, .lit (.bool false))] [LF (-1), .cells 25 6 (vmk k u t n f o d g)])
  | 0, i, m, hm, hr, hi => by
    have hd : decide ((i : Int) < d) = false := by simp; omega
    refine ⟨fun _ => ?_, fun h => absurd (Nat.zero_le m) h⟩
    have := LoopC.exit (vhx k u t n f o d g m i ⟨hd, trivial⟩) (by simp)
    have e0 : ((m : Int) - (sumN (fun i => (g i).cnt) i 0 : Nat)) = m := by simp [sumN]
    rw [e0]
    exact this
  | r + 1, i, m, hm, hr, hi => by
    have hlt : i < d := by omega
    have hd : decide ((i : Int) < d) = true := by simp; omega
    have hb : (0 : Int) ≤ i ∧ (i : Int) < d := by omega
    have hc := ih i hlt m hm
    have w := wrapI i (by omega)
    by_cases h1 : (g i).cnt ≤ m
    · simp only [h1, decide_true, if_true] at hc
      have e1 : ((m - (g i).cnt : Nat) : Int) = (m : Int) - (g i).cnt := by omega
      rw [← e1] at hc
      have st := vhl k u t n f o d g m ((m - (g i).cnt : Nat) : Int) i ⟨hc, ⟨Le.refl _, Le.refl _, trivial⟩, hb, hd, trivial⟩
      rw [w] at st
      obtain ⟨a, b⟩ := few1 k u t n f o d g hn ih r (i + 1) (m - (g i).cnt) (by omega) (by omega) (by omega)
      have e2 : sumN (fun i => (g i).cnt) i (r + 1) = (g i).cnt + sumN (fun i => (g i).cnt) (i + 1) r := rfl
      rw [e2]
      refine ⟨fun h => ?_, fun h => LoopC.step st (b (by omega))⟩
      have := LoopC.step st (a (by omega))
      rw [show ((m : Int) - ((g i).cnt + sumN (fun i => (g i).cnt) (i + 1) r : Nat)) = ((m - (g i).cnt : Nat) : Int) - (sumN (fun i => (g i).cnt) (i + 1) r : Nat) by omega]
      exact this
    · simp only [h1, decide_false, if_false] at hc
      refine ⟨fun h => absurd h (by simp only [sumN]; omega), fun _ => ?_⟩
      exact LoopC.exit (vhr k u t n f o d g m (-1) i ⟨hc, ⟨Le.refl _, Le.refl _, trivial⟩, hb, hd, trivial⟩) (by simp)

theorem few_mk (k u : Int) (t : ByteArray) (n : Nat) (f : Nat → ValT) (o : Int) (d : Nat) (g : Nat → ValT) (hn : n ≤ 9223372036854775807) (hd : d ≤ 9223372036854775807)
    (ih : ∀ i, i < n → ∀ m : Nat, m ≤ 1000000 → ACalls Tryd.prog noG 80 [vAV (f i), .ptr 0 0] [LF m] (.lit (.bool (decide ((f i).cnt ≤ m)))) [LF (if (f i).cnt ≤ m then (m : Int) - (f i).cnt else -1)])
    (ih2 : ∀ i, i < d → ∀ m : Nat, m ≤ 1000000 → ACalls Tryd.prog noG 80 [vAV (g i), .ptr 0 0] [LF m] (.lit (.bool (decide ((g i).cnt ≤ m)))) [LF (if (g i).cnt ≤ m then (m : Int) - (g i).cnt else -1)]) (m : Nat) (hm : m ≤ 1000000) :
    ACalls Tryd.prog noG 80 [.agg (vmk k u t n f o d g), .ptr 0 0] [LF m] (.lit (.bool (decide ((ValT.mk k u t n f o d g).cnt ≤ m)))) [LF (if (ValT.mk k u t n f o d g).cnt ≤ m then (m : Int) - (ValT.mk k u t n f o d g).cnt else -1)] := by
  have ec : (ValT.mk k u t n f o d g).cnt = 1 + sumN (fun i => (f i).cnt) 0 n + sumN (fun i => (g i).cnt) 0 d := rfl
  rw [ec]
  cases m with
  | zero =>
    have w : IntKind.i64.wrap (((0 : Nat) : Int) - 1) = -1 := by decide
    have := vfa k u t n f o d g ((0 : Nat) : Int) ⟨by rw [w]; decide, trivial⟩
    rw [w] at this
    exact this.cast rfl rfl (by simp) (by simp <;> omega)
  | succ m =>
    have w : IntKind.i64.wrap (((m + 1 : Nat) : Int) - 1) = m := by rw [wrap64 (by omega) (by omega)]; omega
    have w0 : (((m + 1 : Nat) : Int) - 1) = m := by omega
    have hpos : decide (IntKind.i64.wrap (((m + 1 : Nat) : Int) - 1) < 0) = false := by rw [w]; simp
    have rl : RowLe (LF (IntKind.i64.wrap (((m + 1 : Nat) : Int) - 1))) (LF (((m + 1 : Nat) : Int) - 1)) ∧ RowLe (Row.cells 25 6 (vmk k u t n f o d g)) (Row.cells 25 6 (vmk k u t n f o d g)) ∧ True := by rw [w, w0]; exact ⟨RowLe.refl _, RowLe.refl _, trivial⟩
    obtain ⟨a, b⟩ := few0 k u t n f o d g hn ih n 0 m (by omega) (by omega) (by omega)
    by_cases h1 : sumN (fun i => (f i).cnt) 0 n ≤ m
    · have e1 : ((m : Int) - sumN (fun i => (f i).cnt) 0 n) = ((m - sumN (fun i => (f i).cnt) 0 n : Nat) : Int) := by omega
      have L0 := (a h1).code
      rw [e1] at L0
      rw [← w0] at L0
      obtain ⟨a2, b2⟩ := few1 k u t n f o d g hd ih2 d 0 (m - sumN (fun i => (f i).cnt) 0 n) (by omega) (by omega) (by omega)
      by_cases h2 : sumN (fun i => (g i).cnt) 0 d ≤ m - sumN (fun i => (f i).cnt) 0 n
      · have hle : 1 + sumN (fun i => (f i).cnt) 0 n + sumN (fun i => (g i).cnt) 0 d ≤ m + 1 := by omega
        exact (vfb k u t n f o d g ((m + 1 : Nat) : Int) _ _ ⟨(a2 h2).code, L0, rl, hpos, trivial⟩).cast rfl rfl (by simp [hle]) (by simp [hle]; omega)
      · have hle : ¬ 1 + sumN (fun i => (f i).cnt) 0 n + sumN (fun i => (g i).cnt) 0 d ≤ m + 1 := by omega
        exact (vfd k u t n f o d g ((m + 1 : Nat) : Int) _ _ ⟨(b2 h2).code, L0, rl, hpos, trivial⟩).cast rfl rfl (by simp [hle]) (by simp [hle])
    · have hle : ¬ 1 + sumN (fun i => (f i).cnt) 0 n + sumN (fun i => (g i).cnt) 0 d ≤ m + 1 := by omega
      have L0 := (b h1).code
      rw [← w0] at L0
      exact (vfc k u t n f o d g ((m + 1 : Nat) : Int) _ ⟨L0, rl, hpos, trivial⟩).cast rfl rfl (by simp [hle]) (by simp [hle])

/-- No list is longer than a memory holds. -/
def ValT.wf : ValT → Prop
  | .nul => True
  | .mk k u t n f o d g => 0 ≤ u ∧ u < 18446744073709551616 ∧ n ≤ 9223372036854775807 ∧ d ≤ 9223372036854775807 ∧ t.size ≤ 9223372036854775807 ∧ (∀ i, i < n → (f i).wf) ∧ ∀ i, i < d → (g i).wf

theorem ACalls.vnulArg {fn : FuncId} {args : List AV} {H H' : List Row} {ret : AV} (h : ACalls Tryd.prog noG fn (.agg (vmk 0 0 .empty 0 (fun _ => .nul) 0 0 (fun _ => .nul)) :: args) H ret H') : ACalls Tryd.prog noG fn (vAV .nul :: args) H ret H' :=
  h.le (args' := vAV .nul :: args) ⟨vnul_le, leAll_refl _⟩ (Le.refl _) rfl

theorem fewV : ∀ (p : ValT), p.wf → ∀ m : Nat, m ≤ 1000000 → ACalls Tryd.prog noG 80 [vAV p, .ptr 0 0] [LF m] (.lit (.bool (decide (p.cnt ≤ m)))) [LF (if p.cnt ≤ m then (m : Int) - p.cnt else -1)] := by
  intro p
  induction p with
  | nul => exact fun _ m hm => ACalls.vnulArg (few_mk 0 0 .empty 0 (fun _ => .nul) 0 0 (fun _ => .nul) (by omega) (by omega) (fun i hi => absurd hi (by omega)) (fun i hi => absurd hi (by omega)) m hm)
  | mk k u t n f o d g ih ih2 =>
    exact fun hw m hm => few_mk k u t n f o d g hw.2.2.1 hw.2.2.2.1 (fun i hi m hm => ih i (hw.2.2.2.2.2.1 i hi) m hm) (fun i hi m hm => ih2 i (hw.2.2.2.2.2.2 i hi) m hm) m hm
end Go.Ax
