/-
  Values of AMQP: checks of one that look at no package-level variable.
-/
import Derived.Test.YtbdfpnhcincimaaDoorVaI
import Derived.Test.YtbdfpnhcincimaaDoorX3a
import Derived.Test.YtbdfpnhcincimaaDoorX3b
import Derived.Test.YtbdfpnhcincimaaDoorX3c
import Derived.Test.YtbdfpnhcincimaaDoorX6
set_option linter.unusedVariables false
set_option linter.unusedSimpArgs false
set_option maxRecDepth 100000
set_option maxHeartbeats 1000000
namespace Go.Ax
open Go.Proofs

/-! ### Are two the same? -/
theorem sameL (k u : Int) (t : ByteArray) (n : Nat) (f : Nat → ValT) (o : Int) (d : Nat) (g : Nat → ValT) (k2 u2 : Int) (t2 : ByteArray) (n2 : Nat) (f2 : Nat → ValT) (o2 : Int) (d2 : Nat) (g2 : Nat → ValT) (hn : n ≤ 9223372036854775807) (he : n2 = n) (ih : ∀ i, i < n → ∃ b : Bool, ACalls Tryd.prog noG 16 [vAV (f i), vAV (f2 i)] [] (.lit (.bool b)) []) :
    ∀ (m i : Nat), n - i = m → i ≤ n →
      LoopC Tryd.prog noG 77 (loopAt Tryd.f16 0) [(2, .ptr 0 0), (3, .ptr 1 0), (45, .lit (.int .i64 n)), (46, .lit (.int .i64 i))] [.cells 25 6 (vmk k u t n f o d g), .cells 25 6 (vmk k2 u2 t2 n2 f2 o2 d2 g2)] (.exit 0) [(2, .ptr 0 0), (3, .ptr 1 0)] [.cells 25 6 (vmk k u t n f o d g), .cells 25 6 (vmk k2 u2 t2 n2 f2 o2 d2 g2)] ∨
      LoopC Tryd.prog noG 77 (loopAt Tryd.f16 0) [(2, .ptr 0 0), (3, .ptr 1 0), (45, .lit (.int .i64 n)), (46, .lit (.int .i64 i))] [.cells 25 6 (vmk k u t n f o d g), .cells 25 6 (vmk k2 u2 t2 n2 f2 o2 d2 g2)] .ret [(4, .lit (.bool false))] [.cells 25 6 (vmk k u t n f o d g), .cells 25 6 (vmk k2 u2 t2 n2 f2 o2 d2 g2)]
  | 0, i, hm, hi => by
    have hd : decide ((i : Int) < n) = false := by simp; omega
    exact .inl (LoopC.exit (svx k u t n f o d g k2 u2 t2 n2 f2 o2 d2 g2 i (by simp only [AllP, Int.toNat_natCast]; repeat' (first | exact trivial | with_reducible apply And.intro | assumption | exact leAll_refl _ | omega | (simp; done) | (simp; omega)))) (by simp))
  | m + 1, i, hm, hi => by
    have hlt : i < n := by omega
    have hd : decide ((i : Int) < n) = true := by simp; omega
    have hb : (0 : Int) ≤ i ∧ (i : Int) < n := by omega
    have hb2 : (0 : Int) ≤ i ∧ (i : Int) < n2 := by omega
    have w := wrapI i (by omega)
    obtain ⟨b, hc⟩ := ih i hlt
    cases b with
    | false => exact .inr (LoopC.exit (svr k u t n f o d g k2 u2 t2 n2 f2 o2 d2 g2 i (by simp only [AllP, Int.toNat_natCast]; repeat' (first | exact trivial | with_reducible apply And.intro | assumption | exact leAll_refl _ | omega | (simp; done) | (simp; omega)))) (by simp))
    | true =>
      have st := svl k u t n f o d g k2 u2 t2 n2 f2 o2 d2 g2 i (by simp only [AllP, Int.toNat_natCast]; repeat' (first | exact trivial | with_reducible apply And.intro | assumption | exact leAll_refl _ | omega | (simp; done) | (simp; omega)))
      rw [w] at st
      rcases sameL k u t n f o d g k2 u2 t2 n2 f2 o2 d2 g2 hn he ih m (i + 1) (by omega) (by omega) with h | h
      · exact .inl (LoopC.step st h)
      · exact .inr (LoopC.step st h)

theorem same_mk (k u : Int) (t : ByteArray) (n : Nat) (f : Nat → ValT) (o : Int) (d : Nat) (g : Nat → ValT) (k2 u2 : Int) (t2 : ByteArray) (n2 : Nat) (f2 : Nat → ValT) (o2 : Int) (d2 : Nat) (g2 : Nat → ValT) (hn : n ≤ 9223372036854775807) (ih : ∀ i, i < n → ∃ b : Bool, ACalls Tryd.prog noG 16 [vAV (f i), vAV (f2 i)] [] (.lit (.bool b)) []) (ihd : 0 < d → ∃ b : Bool, ACalls Tryd.prog noG 16 [vAV (g 0), vAV (g2 0)] [] (.lit (.bool b)) []) :
    ∃ b : Bool, ACalls Tryd.prog noG 16 [.agg (vmk k u t n f o d g), .agg (vmk k2 u2 t2 n2 f2 o2 d2 g2)] [] (.lit (.bool b)) [] := by
  cases hE : (bif bif bif bif k != k2 then true else u != u2 then true else !t.toList == t2.toList then true else (↑n : Int) != (↑n2 : Int) then true else (↑d : Int) != (↑d2 : Int)) with
  | true => exact ⟨false, sva k u t n f o d g k2 u2 t2 n2 f2 o2 d2 g2 ⟨hE, trivial⟩⟩
  | false =>
    have hnd : n = n2 ∧ d = d2 := by
      simp at hE
      omega
    obtain ⟨rfl, rfl⟩ := hnd
    rcases sameL k u t n f o d g k2 u2 t2 n f2 o2 d g2 hn rfl ih n 0 rfl (Nat.zero_le _) with h | h
    · have hl := h.code
      by_cases hd : d = 0
      · subst hd
        exact ⟨true, svb k u t n f o 0 g k2 u2 t2 n f2 o2 0 g2 (by simp only [AllP, Int.toNat_natCast]; repeat' (first | exact trivial | with_reducible apply And.intro | assumption | exact leAll_refl _ | omega | (simp; done) | (simp; omega)))⟩
      · obtain ⟨b, hb⟩ := ihd (by omega)
        exact ⟨_, svd k u t n f o d g k2 u2 t2 n f2 o2 d g2 b (by simp only [AllP]; repeat' (first | exact trivial | with_reducible apply And.intro | exact hb | exact hl | assumption | exact leAll_refl _ | (simp [hd]; done) | (simp [hd]; omega) | (intro _; simp [hd]; omega)))⟩
    · have hl := h.code
      exact ⟨false, svc k u t n f o d g k2 u2 t2 n f2 o2 d g2 (by simp only [AllP, Int.toNat_natCast]; repeat' (first | exact trivial | with_reducible apply And.intro | assumption | exact leAll_refl _ | omega | (simp; done) | (simp; omega)))⟩

theorem sameE : ∀ p : ValT, p.wf → ∀ q : ValT, ∃ b : Bool, ACalls Tryd.prog noG 16 [vAV p, vAV q] [] (.lit (.bool b)) [] := by
  intro p
  induction p with
  | nul =>
    intro _ q
    obtain ⟨b, h⟩ := same_mk 0 0 .empty 0 (fun _ => .nul) 0 0 (fun _ => .nul) q.kind q.num q.text q.n q.kidf q.kof q.nd q.dscf (by omega) (fun i hi => absurd hi (Nat.not_lt_zero i)) (fun h => absurd h (Nat.lt_irrefl 0))
    exact ⟨b, h.le ⟨vnul_le, vparts_le q, trivial⟩ (Le.refl _) rfl⟩
  | mk k u t n f o d g ih ih2 =>
    intro hw q
    obtain ⟨b, h⟩ := same_mk k u t n f o d g q.kind q.num q.text q.n q.kidf q.kof q.nd q.dscf hw.2.2.1 (fun i hi => ih i (hw.2.2.2.2.2.1 i hi) (q.kidf i)) (fun h => ih2 0 (hw.2.2.2.2.2.2 0 h) (q.dscf 0))
    exact ⟨b, h.le ⟨Le.refl _, vparts_le q, trivial⟩ (Le.refl _) rfl⟩

/-! ### Arrays -/
theorem arrL (k u : Int) (t : ByteArray) (n : Nat) (f : Nat → ValT) (o : Int) (d : Nat) (g : Nat → ValT) (hn : n ≤ 9223372036854775807) (hw : ∀ i, i < n → ∀ j, j < (f i).nd → ((f i).dscf j).wf) :
    ∀ (m i : Nat), n - i = m → i ≤ n →
      (LoopC Tryd.prog noG 69 (loopAt Tryd.f124 0) [(1, .ptr 0 0), (18, .ro 6 n (fun i => vparts (f i))), (19, .lit (.int .i64 n)), (20, .lit (.int .i64 i))] [.cells 25 6 [.lit (.int .i64 k), .lit (.int .u64 u), .lit (.string t), .ro 6 n (fun i => vparts (f i)), .lit (.int .i64 o), .ro 6 d (fun i => vcl (g i))]] (.exit 0) [(1, .ptr 0 0)] [.cells 25 6 [.lit (.int .i64 k), .lit (.int .u64 u), .lit (.string t), .ro 6 n (fun i => vparts (f i)), .lit (.int .i64 o), .ro 6 d (fun i => vcl (g i))]] ∧ ∀ j, i ≤ j → j < n → (f j).kind = (f 0).kind ∧ (f j).nd = (f 0).nd) ∨ LoopC Tryd.prog noG 69 (loopAt Tryd.f124 0) [(1, .ptr 0 0), (18, .ro 6 n (fun i => vparts (f i))), (19, .lit (.int .i64 n)), (20, .lit (.int .i64 i))] [.cells 25 6 [.lit (.int .i64 k), .lit (.int .u64 u), .lit (.string t), .ro 6 n (fun i => vparts (f i)), .lit (.int .i64 o), .ro 6 d (fun i => vcl (g i))]] .ret [(2, .lit (.bool false))] [.cells 25 6 [.lit (.int .i64 k), .lit (.int .u64 u), .lit (.string t), .ro 6 n (fun i => vparts (f i)), .lit (.int .i64 o), .ro 6 d (fun i => vcl (g i))]]
  | 0, i, hm, hi => by
    have hd : decide ((i : Int) < n) = false := by simp; omega
    exact .inl ⟨LoopC.exit (afx k u t n f o d g i (by simp only [AllP, Int.toNat_natCast]; repeat' (first | exact trivial | with_reducible apply And.intro | assumption | exact leAll_refl _ | omega | (simp; done) | (simp; omega)))) (by simp), fun j h1 h2 => by omega⟩
  | m + 1, i, hm, hi => by
    have hlt : i < n := by omega
    have hd : decide ((i : Int) < n) = true := by simp; omega
    have hb : (0 : Int) ≤ i ∧ (i : Int) < n := by omega
    have hpos : 0 < n := by omega
    have w := wrapI i (by omega)
    have z : Int.toNat 0 = 0 := rfl
    by_cases hk : (f i).kind = (f 0).kind ∧ (f i).nd = (f 0).nd
    · obtain ⟨hk, hnd⟩ := hk
      have next : (LoopC Tryd.prog noG 69 (loopAt Tryd.f124 0) [(1, .ptr 0 0), (18, .ro 6 n (fun i => vparts (f i))), (19, .lit (.int .i64 n)), (20, .lit (.int .i64 (i + 1 : Nat)))] [.cells 25 6 [.lit (.int .i64 k), .lit (.int .u64 u), .lit (.string t), .ro 6 n (fun i => vparts (f i)), .lit (.int .i64 o), .ro 6 d (fun i => vcl (g i))]] (.exit 0) [(1, .ptr 0 0)] [.cells 25 6 [.lit (.int .i64 k), .lit (.int .u64 u), .lit (.string t), .ro 6 n (fun i => vparts (f i)), .lit (.int .i64 o), .ro 6 d (fun i => vcl (g i))]] ∧ ∀ j, i + 1 ≤ j → j < n → (f j).kind = (f 0).kind ∧ (f j).nd = (f 0).nd) ∨ LoopC Tryd.prog noG 69 (loopAt Tryd.f124 0) [(1, .ptr 0 0), (18, .ro 6 n (fun i => vparts (f i))), (19, .lit (.int .i64 n)), (20, .lit (.int .i64 (i + 1 : Nat)))] [.cells 25 6 [.lit (.int .i64 k), .lit (.int .u64 u), .lit (.string t), .ro 6 n (fun i => vparts (f i)), .lit (.int .i64 o), .ro 6 d (fun i => vcl (g i))]] .ret [(2, .lit (.bool false))] [.cells 25 6 [.lit (.int .i64 k), .lit (.int .u64 u), .lit (.string t), .ro 6 n (fun i => vparts (f i)), .lit (.int .i64 o), .ro 6 d (fun i => vcl (g i))]] := arrL k u t n f o d g hn hw m (i + 1) (by omega) (by omega)
      have fin : ∀ (st : CodeC Tryd.prog noG 69 (loopAt Tryd.f124 0) [(1, .ptr 0 0), (18, .ro 6 n (fun i => vparts (f i))), (19, .lit (.int .i64 n)), (20, .lit (.int .i64 i))] [.cells 25 6 [.lit (.int .i64 k), .lit (.int .u64 u), .lit (.string t), .ro 6 n (fun i => vparts (f i)), .lit (.int .i64 o), .ro 6 d (fun i => vcl (g i))]] .normal [(1, .ptr 0 0), (18, .ro 6 n (fun i => vparts (f i))), (19, .lit (.int .i64 n)), (20, .lit (.int .i64 (i + 1 : Nat)))] [.cells 25 6 [.lit (.int .i64 k), .lit (.int .u64 u), .lit (.string t), .ro 6 n (fun i => vparts (f i)), .lit (.int .i64 o), .ro 6 d (fun i => vcl (g i))]]),
          (LoopC Tryd.prog noG 69 (loopAt Tryd.f124 0) [(1, .ptr 0 0), (18, .ro 6 n (fun i => vparts (f i))), (19, .lit (.int .i64 n)), (20, .lit (.int .i64 i))] [.cells 25 6 [.lit (.int .i64 k), .lit (.int .u64 u), .lit (.string t), .ro 6 n (fun i => vparts (f i)), .lit (.int .i64 o), .ro 6 d (fun i => vcl (g i))]] (.exit 0) [(1, .ptr 0 0)] [.cells 25 6 [.lit (.int .i64 k), .lit (.int .u64 u), .lit (.string t), .ro 6 n (fun i => vparts (f i)), .lit (.int .i64 o), .ro 6 d (fun i => vcl (g i))]] ∧ ∀ j, i ≤ j → j < n → (f j).kind = (f 0).kind ∧ (f j).nd = (f 0).nd) ∨ LoopC Tryd.prog noG 69 (loopAt Tryd.f124 0) [(1, .ptr 0 0), (18, .ro 6 n (fun i => vparts (f i))), (19, .lit (.int .i64 n)), (20, .lit (.int .i64 i))] [.cells 25 6 [.lit (.int .i64 k), .lit (.int .u64 u), .lit (.string t), .ro 6 n (fun i => vparts (f i)), .lit (.int .i64 o), .ro 6 d (fun i => vcl (g i))]] .ret [(2, .lit (.bool false))] [.cells 25 6 [.lit (.int .i64 k), .lit (.int .u64 u), .lit (.string t), .ro 6 n (fun i => vparts (f i)), .lit (.int .i64 o), .ro 6 d (fun i => vcl (g i))]] := fun st => by
        rcases next with ⟨h, h2⟩ | h
        · refine .inl ⟨LoopC.step st h, fun j q1 q2 => ?_⟩
          by_cases hj : j = i
          · subst hj; exact ⟨hk, hnd⟩
          · exact h2 j (by omega) q2
        · exact .inr (LoopC.step st h)
      by_cases h1 : (f i).nd = 1
      · have h0 : (f 0).nd = 1 := by omega
        obtain ⟨b, hs⟩ := sameE ((f i).dscf 0) (hw i hlt 0 (by omega)) ((f 0).dscf 0)
        cases b with
        | true =>
          have st := afd k u t n f o d g i (by simp only [AllP, Int.toNat_natCast, z]; repeat' (first | exact trivial | with_reducible apply And.intro | exact hs | assumption | exact leAll_refl _ | omega | (simp [hk, h1, h0]; done) | (simp [hk, h1, h0]; omega)))
          rw [w] at st
          exact fin st
        | false =>
          exact .inr (LoopC.exit (afe k u t n f o d g i (by simp only [AllP, Int.toNat_natCast, z]; repeat' (first | exact trivial | with_reducible apply And.intro | exact hs | assumption | exact leAll_refl _ | omega | (simp [hk, h1, h0]; done) | (simp [hk, h1, h0]; omega)))) (by simp))
      · have h0 : ¬ (f 0).nd = 1 := by omega
        have hnd1 : (((f i).nd : Int) == 1) = false := by simp; omega
        have st := afl k u t n f o d g i (by simp only [AllP, Int.toNat_natCast, z, hnd1]; repeat' (first | exact trivial | with_reducible apply And.intro | assumption | exact leAll_refl _ | omega | (simp [hk, hnd]; done) | (simp [hk, hnd]; omega)))
        rw [w] at st
        exact fin st
    · have hne : (bif (f i).kind != (f 0).kind then true else (((f i).nd : Int) != ((f 0).nd : Int))) = true := by
        cases hx : ((f i).kind != (f 0).kind) with
        | true => rfl
        | false => simp at hx; simp; intro hy; exact hk ⟨hx, by omega⟩
      exact .inr (LoopC.exit (afr k u t n f o d g i (by simp only [AllP, Int.toNat_natCast, z, hne]; repeat' (first | exact trivial | with_reducible apply And.intro | assumption | exact leAll_refl _ | omega | (simp; done) | (simp; omega)))) (by simp))

theorem arrayFitsC (k u : Int) (t : ByteArray) (n : Nat) (f : Nat → ValT) (o : Int) (d : Nat) (g : Nat → ValT) (hn : n ≤ 9223372036854775807) (hw : ∀ i, i < n → ∀ j, j < (f i).nd → ((f i).dscf j).wf) :
    ∃ b : Bool, (b = true → (n = 0 → 0 ≤ o ∧ o < 24) ∧ ∀ i, i < n → (f i).kind = (f 0).kind ∧ (f i).nd = (f 0).nd) ∧ ACalls Tryd.prog noG 124 [.agg (vmk k u t n f o d g)] [] (.lit (.bool b)) [] := by
  by_cases h0 : n = 0
  · refine ⟨_, fun hb => ⟨fun _ => ?_, fun i hi => by omega⟩, (afa k u t n f o d g ⟨by simp [h0], trivial⟩).le ⟨vmk_vm2 k u t n f o d g, trivial⟩ (Le.refl _) rfl⟩
    simp at hb
    exact hb
  · rcases arrL k u t n f o d g hn hw n 0 rfl (Nat.zero_le _) with ⟨h, h2⟩ | h
    · have hl := h.code
      exact ⟨_, fun _ => ⟨fun h => absurd h h0, fun i hi => h2 i (Nat.zero_le _) hi⟩, (afb k u t n f o d g (by simp only [AllP]; repeat' (first | exact trivial | with_reducible apply And.intro | exact hl | (simp [h0]; done)))).le ⟨vmk_vm2 k u t n f o d g, trivial⟩ (Le.refl _) rfl⟩
    · have hl := h.code
      exact ⟨false, fun h => (by cases h), (afc k u t n f o d g (by simp only [AllP]; repeat' (first | exact trivial | with_reducible apply And.intro | exact hl | (simp [h0]; done)))).le ⟨vmk_vm2 k u t n f o d g, trivial⟩ (Le.refl _) rfl⟩

/-! ### ASCII -/
theorem asciiL (t : ByteArray) (ht : t.size ≤ 9223372036854775807) : ∀ (m i : Nat), t.size - i = m → i ≤ t.size →
    LoopC Tryd.prog noG 14 (loopAt Tryd.f123 0) [(0, .lit (.string t)), (3, .lit (.int .i64 i))] [] (.exit 0) [] [] ∨ LoopC Tryd.prog noG 14 (loopAt Tryd.f123 0) [(0, .lit (.string t)), (3, .lit (.int .i64 i))] [] .ret [(2, .lit (.bool false))] []
  | 0, i, hm, hi => by
    have hd : decide ((i : Int) < t.size) = false := by simp; omega
    exact .inl (LoopC.exit (asx t i (by simp only [AllP, Int.toNat_natCast]; repeat' (first | exact trivial | with_reducible apply And.intro | assumption | exact leAll_refl _ | omega | (simp; done) | (simp; omega)))) (by simp))
  | m + 1, i, hm, hi => by
    have hd : decide ((i : Int) < t.size) = true := by simp; omega
    have hb : (0 : Int) ≤ i ∧ (i : Int) < t.size := by omega
    have w := wrapI i (by omega)
    cases hc : decide (((t.data.toList.getD i 0).toNat : Int) ≥ 128) with
    | true => exact .inr (LoopC.exit (asr t i (by simp only [AllP, Int.toNat_natCast]; repeat' (first | exact trivial | with_reducible apply And.intro | assumption | exact leAll_refl _ | omega | (simp; done) | (simp; omega)))) (by simp))
    | false =>
      have st := asl t i (by simp only [AllP, Int.toNat_natCast]; repeat' (first | exact trivial | with_reducible apply And.intro | assumption | exact leAll_refl _ | omega | (simp; done) | (simp; omega)))
      rw [w] at st
      rcases asciiL t ht m (i + 1) (by omega) (by omega) with h | h
      · exact .inl (LoopC.step st h)
      · exact .inr (LoopC.step st h)

theorem asciiE (t : ByteArray) (ht : t.size ≤ 9223372036854775807) : ∃ b : Bool, ACalls Tryd.prog noG 123 [.lit (.string t)] [] (.lit (.bool b)) [] := by
  rcases asciiL t ht t.size 0 rfl (Nat.zero_le _) with h | h
  · have hl := h.code
    exact ⟨_, asa t (by simp only [AllP, Int.toNat_natCast]; repeat' (first | exact trivial | with_reducible apply And.intro | assumption | exact leAll_refl _ | omega | (simp; done) | (simp; omega)))⟩
  · have hl := h.code
    exact ⟨_, asb t (by simp only [AllP, Int.toNat_natCast]; repeat' (first | exact trivial | with_reducible apply And.intro | assumption | exact leAll_refl _ | omega | (simp; done) | (simp; omega)))⟩

/-! ### Values in one -/
theorem valuesL (h : Nat → ValT) (m : Nat) (hm : m ≤ 1000000) (ih : ∀ i, i < m → ∃ c : Int, ACalls Tryd.prog noG 47 [vAV (h i)] [] (.lit (.int .i64 c)) []) : ∀ (r i : Nat), m - i = r → i ≤ m → ∀ c : Int,
    ∃ c' : Int, LoopC Tryd.prog noG 24 (loopAt Tryd.f47 0) [(3, .lit (.int .i64 c)), (12, .ro 6 m (fun i => vcl (h i))), (13, .lit (.int .i64 m)), (14, .lit (.int .i64 i))] [] (.exit 0) [(3, .lit (.int .i64 c'))] []
  | 0, i, hr, hi, c => by
    have hd : decide ((i : Int) < m) = false := by simp; omega
    exact ⟨c, LoopC.exit (vsx h m i c 0 (by simp only [AllP, Int.toNat_natCast]; repeat' (first | exact trivial | with_reducible apply And.intro | assumption | exact leAll_refl _ | omega | (simp; done) | (simp; omega)))) (by simp)⟩
  | r + 1, i, hr, hi, c => by
    have hlt : i < m := by omega
    have hd : decide ((i : Int) < m) = true := by simp; omega
    have hb : (0 : Int) ≤ i ∧ (i : Int) < m := by omega
    have w := wrapI i (by omega)
    obtain ⟨c1, hc⟩ := ih i hlt
    have st := vsl h m i c c1 (by simp only [AllP, Int.toNat_natCast]; repeat' (first | exact trivial | with_reducible apply And.intro | assumption | exact leAll_refl _ | omega | (simp; done) | (simp; omega)))
    rw [w] at st
    obtain ⟨c', h'⟩ := valuesL h m hm ih r (i + 1) (by omega) (by omega) _
    exact ⟨c', LoopC.step st h'⟩

/-! ### Empty texts in arrays -/
def noEmpty (k : Int) (n : Nat) (f : Nat → ValT) : Prop := k = 23 → ∀ i, i < n → 18 ≤ (f i).kind → (f i).kind ≤ 20 → (f i).text.size ≠ 0

theorem emptyL (k u : Int) (t : ByteArray) (n : Nat) (f : Nat → ValT) (o : Int) (d : Nat) (g : Nat → ValT) (hn : n ≤ 9223372036854775807) (ih : ∀ i, i < n → ∃ b : Bool, ACalls Tryd.prog noG 48 [vAV (f i)] [] (.lit (.bool b)) []) : ∀ (m i : Nat), n - i = m → i ≤ n →
    (LoopC Tryd.prog noG 35 (loopAt Tryd.f48 0) [(1, .ptr 0 0), (6, .ro 6 n (fun i => vcl (f i))), (7, .lit (.int .i64 n)), (8, .lit (.int .i64 i))] [.cells 25 6 (vmk k u t n f o d g)] (.exit 0) [] [.cells 25 6 (vmk k u t n f o d g)] ∧ ∀ j, i ≤ j → j < n → ((bif bif bif k == (23 : Int) then decide ((f j).kind ≥ (18 : Int)) else false then decide ((f j).kind ≤ (20 : Int)) else false then (f j).text.toList == (ByteArray.mk #[]).toList else false)) = false) ∨
    LoopC Tryd.prog noG 35 (loopAt Tryd.f48 0) [(1, .ptr 0 0), (6, .ro 6 n (fun i => vcl (f i))), (7, .lit (.int .i64 n)), (8, .lit (.int .i64 i))] [.cells 25 6 (vmk k u t n f o d g)] .ret [(2, .lit (.bool true))] [.cells 25 6 (vmk k u t n f o d g)]
  | 0, i, hm, hi => by
    have hd : decide ((i : Int) < n) = false := by simp; omega
    exact .inl ⟨LoopC.exit (etX k u t n f o d g i (by simp only [AllP, Int.toNat_natCast]; repeat' (first | exact trivial | with_reducible apply And.intro | assumption | exact leAll_refl _ | omega | (simp; done) | (simp; omega)))) (by simp), fun j h1 h2 => by omega⟩
  | m + 1, i, hm, hi => by
    have hlt : i < n := by omega
    have hd : decide ((i : Int) < n) = true := by simp; omega
    have hb : (0 : Int) ≤ i ∧ (i : Int) < n := by omega
    have w := wrapI i (by omega)
    cases hT : ((bif bif bif k == (23 : Int) then decide ((f i).kind ≥ (18 : Int)) else false then decide ((f i).kind ≤ (20 : Int)) else false then (f i).text.toList == (ByteArray.mk #[]).toList else false)) with
    | true => exact .inr (LoopC.exit (etT k u t n f o d g i (by simp only [AllP, Int.toNat_natCast]; repeat' (first | exact trivial | with_reducible apply And.intro | assumption | exact leAll_refl _ | omega | (simp [hT]; done) | (simp [hT]; omega)))) (by simp))
    | false =>
      obtain ⟨b, hc⟩ := ih i hlt
      cases b with
      | true => exact .inr (LoopC.exit (etC k u t n f o d g i (by simp only [AllP, Int.toNat_natCast, hT]; repeat' (first | exact trivial | with_reducible apply And.intro | assumption | exact leAll_refl _ | omega | (simp; done)))) (by simp))
      | false =>
        have st := etL k u t n f o d g i (by simp only [AllP, Int.toNat_natCast, hT]; repeat' (first | exact trivial | with_reducible apply And.intro | assumption | exact leAll_refl _ | omega | (simp; done)))
        rw [w] at st
        rcases emptyL k u t n f o d g hn ih m (i + 1) (by omega) (by omega) with ⟨h, h2⟩ | h
        · refine .inl ⟨LoopC.step st h, fun j q1 q2 => ?_⟩
          by_cases hj : j = i
          · subst hj; exact hT
          · exact h2 j (by omega) q2
        · exact .inr (LoopC.step st h)

theorem empty_mk (k u : Int) (t : ByteArray) (n : Nat) (f : Nat → ValT) (o : Int) (d : Nat) (g : Nat → ValT) (hn : n ≤ 9223372036854775807) (ih : ∀ i, i < n → ∃ b : Bool, ACalls Tryd.prog noG 48 [vAV (f i)] [] (.lit (.bool b)) []) :
    ∃ b : Bool, (b = false → noEmpty k n f) ∧ ACalls Tryd.prog noG 48 [.agg (vmk k u t n f o d g)] [] (.lit (.bool b)) [] := by
  rcases emptyL k u t n f o d g hn ih n 0 rfl (Nat.zero_le _) with ⟨h, h2⟩ | h
  · have hl := h.code
    refine ⟨false, fun _ hk i hi h18 h20 hz => ?_, eta k u t n f o d g (by simp only [AllP, Int.toNat_natCast]; repeat' (first | exact trivial | with_reducible apply And.intro | assumption | exact leAll_refl _ | omega | (simp; done) | (simp; omega)))⟩
    have := h2 i (Nat.zero_le _) hi
    have ht : (f i).text = ByteArray.mk #[] := by
      have : (f i).text.data.size = 0 := hz
      cases hx : (f i).text with
      | mk a => rw [hx] at this; simp at this; rw [this]
    rw [ht] at this
    have a1 : decide ((f i).kind ≥ 18) = true := by simp; omega
    have a2 : decide ((f i).kind ≤ 20) = true := by simp; omega
    simp [hk, a1, a2] at this
  · have hl := h.code
    exact ⟨true, fun h => (by cases h), etb k u t n f o d g (by simp only [AllP, Int.toNat_natCast]; repeat' (first | exact trivial | with_reducible apply And.intro | assumption | exact leAll_refl _ | omega | (simp; done) | (simp; omega)))⟩

theorem emptyE : ∀ p : ValT, p.wf → ∃ b : Bool, (b = false → noEmpty p.kind p.n p.kidf) ∧ ACalls Tryd.prog noG 48 [vAV p] [] (.lit (.bool b)) [] := by
  intro p
  induction p with
  | nul =>
    intro _
    obtain ⟨b, h1, h2⟩ := empty_mk 0 0 .empty 0 (fun _ => .nul) 0 0 (fun _ => .nul) (by omega) (fun i hi => absurd hi (Nat.not_lt_zero i))
    exact ⟨b, fun hb => h1 hb, h2.le ⟨vnul_le, trivial⟩ (Le.refl _) rfl⟩
  | mk k u t n f o d g ih ih2 =>
    intro hw
    exact empty_mk k u t n f o d g hw.2.2.1 (fun i hi => by obtain ⟨b, _, h⟩ := ih i (hw.2.2.2.2.2.1 i hi); exact ⟨b, h⟩)
end Go.Ax
