/-
  Values of MessagePack: whether one is a value; how many there are in one.
-/
import Derived.Test.YtkbmfpkbegjhcaaSgJ
set_option linter.unusedVariables false
set_option linter.unusedSimpArgs false
set_option maxRecDepth 100000
namespace Go.Ax
open Go.Proofs

/-- No list is longer than a memory holds. -/
def PackT.wf : PackT → Prop
  | .nul => True
  | .mk k u t e n f => 0 ≤ u ∧ u < 18446744073709551616 ∧ n ≤ 9223372036854775807 ∧ t.size ≤ 9223372036854775807 ∧ ∀ i, i < n → (f i).wf

theorem ACalls.nulArg {f : FuncId} {args : List AV} {H H' : List Row} {ret : AV} (h : ACalls Try.prog noG f (.agg (mcells 0 0 .empty 0 0 (fun _ => .nul)) :: args) H ret H') : ACalls Try.prog noG f (pAV .nul :: args) H ret H' :=
  h.le (args' := pAV .nul :: args) ⟨nul_le, leAll_refl _⟩ (Le.refl _) rfl

theorem fewC : ∀ (p : PackT), p.wf → ∀ m : Nat, m ≤ 1000000 → ACalls Try.prog noG 20 [pAV p, .ptr 0 0] [.cells 3 1 [.lit (.int .i64 m)]] (.lit (.bool (decide (p.cnt ≤ m)))) [.cells 3 1 [.lit (.int .i64 (if p.cnt ≤ m then (m : Int) - p.cnt else -1))]] := by
  intro p
  induction p with
  | nul => exact fun _ m hm => ACalls.nulArg (few_mk 0 0 .empty 0 0 (fun _ => .nul) (by omega) (fun i hi => absurd hi (by omega)) m hm)
  | mk k u t e n f ih =>
    intro hw m hm
    exact few_mk k u t e n f hw.2.2.1 (fun i hi m hm => ih i (hw.2.2.2.2 i hi) m hm) m hm

/-! ### Whether one is a value -/
def bad1 (k u : Int) (t : ByteArray) (e : Int) (n : Nat) (l : Int) : Bool := (bif bif bif bif bif bif bif bif Decidable.decide (l ≤ (0 : Int)) then Bool.true else Decidable.decide (k < (0 : Int)) then Bool.true else Decidable.decide (k ≥ (11 : Int)) then Bool.true else bif !bif k == (8 : Int) then Bool.true else k == (9 : Int) then Decidable.decide ((↑n : Int) > (0 : Int)) else Bool.false then Bool.true else bif !bif bif k == (6 : Int) then Bool.true else k == (7 : Int) then Bool.true else k == (10 : Int) then !t.toList == (ByteArray.mk #[]).toList else Bool.false then Bool.true else bif !bif Decidable.decide (k ≥ (1 : Int)) then Decidable.decide (k ≤ (5 : Int)) else Bool.false then u != (0 : Int) else Bool.false then Bool.true else bif k != (10 : Int) then e != (0 : Int) else Bool.false then Bool.true else Decidable.decide (e < (-128 : Int)) then Bool.true else Decidable.decide (e > (127 : Int)))
def bad2 (k u : Int) (t : ByteArray) (n : Nat) : Bool := (bif bif bif bif bif k == (1 : Int) then Decidable.decide (u > (1 : Int)) else Bool.false then Bool.true else bif k == (4 : Int) then Decidable.decide (u.fdiv (4294967296 : Int) > (0 : Int)) else Bool.false then Bool.true else bif k == (9 : Int) then (↑n : Int).tmod (2 : Int) == (1 : Int) else Bool.false then Bool.true else Decidable.decide ((↑n : Int) > (2000 : Int)) then Bool.true else Decidable.decide ((↑t.size : Int) > (131072 : Int)))

def allN (g : Nat → Bool) : Nat → Nat → Bool
  | _, 0 => true
  | i, m + 1 => g i && allN g (i + 1) m

def PackT.fits : PackT → Int → Bool
  | .nul, l => !bad1 0 0 .empty 0 0 l && !bad2 0 0 .empty 0
  | .mk k u t e n f, l => !bad1 k u t e n l && !bad2 k u t n && allN (fun i => (f i).fits (l - 1)) 0 n

theorem fitsLoop (n : Nat) (f : Nat → PackT) (l : Int) (g : Nat → Bool) (hn : n ≤ 9223372036854775807) (hl : -1000000 ≤ l) (hl' : l ≤ 1000000)
    (ih : ∀ i, i < n → ACalls Try.prog noG 21 [pAV (f i), .lit (.int .i64 (l - 1))] [] (.lit (.bool (g i))) []) :
    ∀ (r i : Nat), n - i = r → i ≤ n →
      (allN g i r = true → LoopC Try.prog noG 155 (loopAt Try.f21 0) [(1, .lit (.int .i64 l)), (143, .ro 5 n (fun i => pcells (f i))), (144, .lit (.int .i64 n)), (145, .lit (.int .i64 i))] [] (.exit 0) [] []) ∧
      (allN g i r = false → LoopC Try.prog noG 155 (loopAt Try.f21 0) [(1, .lit (.int .i64 l)), (143, .ro 5 n (fun i => pcells (f i))), (144, .lit (.int .i64 n)), (145, .lit (.int .i64 i))] [] .ret [(4, .lit (.bool false))] [])
  | 0, i, hr, hi => by
    have hd : decide ((i : Int) < n) = false := by simp; omega
    exact ⟨fun _ => LoopC.exit (pfx n f l i ⟨hd, trivial⟩) (by simp), fun h => by cases h⟩
  | r + 1, i, hr, hi => by
    have hlt : i < n := by omega
    have hd : decide ((i : Int) < n) = true := by simp; omega
    have hb : (0 : Int) ≤ i ∧ (i : Int) < n := by omega
    have hc := ih i hlt
    have w := wrapI i (by omega)
    have wl : IntKind.i64.wrap (l - 1) = l - 1 := wrap64 (by omega) (by omega)
    have hle : leAll [pAV (f (i : Int).toNat), .lit (.int .i64 (IntKind.i64.wrap (l - 1)))] [pAV (f i), .lit (.int .i64 (l - 1))] := by rw [wl, Int.toNat_natCast]; exact leAll_refl _
    obtain ⟨a, b⟩ := fitsLoop n f l g hn hl hl' ih r (i + 1) (by omega) (by omega)
    cases hg : g i with
    | true =>
      rw [hg] at hc
      have st := pfl n f l i ⟨hc, hle, hb, hd, trivial⟩
      rw [w] at st
      refine ⟨fun h => LoopC.step st (a ?_), fun h => LoopC.step st (b ?_)⟩
      · simpa [allN, hg] using h
      · simpa [allN, hg] using h
    | false =>
      rw [hg] at hc
      exact ⟨fun h => by simp [allN, hg] at h, fun _ => LoopC.exit (pfr n f l i ⟨hc, hle, hb, hd, trivial⟩) (by simp)⟩

theorem fits_mk (k u : Int) (t : ByteArray) (e : Int) (n : Nat) (f : Nat → PackT) (l : Int) (g : Nat → Bool) (hn : n ≤ 9223372036854775807) (hl : -1000000 ≤ l) (hl' : l ≤ 1000000)
    (ih : 0 < l → ∀ i, i < n → ACalls Try.prog noG 21 [pAV (f i), .lit (.int .i64 (l - 1))] [] (.lit (.bool (g i))) []) :
    ACalls Try.prog noG 21 [.agg (mcells k u t e n f), .lit (.int .i64 l)] [] (.lit (.bool (!bad1 k u t e n l && !bad2 k u t n && allN g 0 n))) [] := by
  cases h1 : bad1 k u t e n l with
  | true => exact pfa k u t e n f l ⟨h1, trivial⟩
  | false =>
    have hl0 : 0 < l := by
      apply Classical.byContradiction
      intro hc
      have : decide (l ≤ 0) = true := by simp; omega
      simp [bad1, this] at h1
    have q2 : (0 : Int) ≤ 32 := by decide
    cases h2 : bad2 k u t n with
    | true => exact pfb k u t e n f l (by simp only [AllP]; repeat' (first | apply And.intro | exact h1 | exact h2 | trivial | (intro h; simp only [AllP]; simp [h])))
    | false =>
      obtain ⟨a, b⟩ := fitsLoop n f l g hn hl hl' (ih hl0) n 0 (by omega) (by omega)
      cases h3 : allN g 0 n with
      | true => exact pfc k u t e n f l (by simp only [AllP]; repeat' (first | apply And.intro | exact h1 | exact h2 | exact (a h3).code | trivial | (intro h; simp only [AllP]; simp [h])))
      | false => exact pfd k u t e n f l (by simp only [AllP]; repeat' (first | apply And.intro | exact h1 | exact h2 | exact (b h3).code | trivial | (intro h; simp only [AllP]; simp [h])))

theorem fitsC : ∀ (p : PackT), p.wf → ∀ l : Int, -1000 ≤ l → l ≤ 1000000 → ACalls Try.prog noG 21 [pAV p, .lit (.int .i64 l)] [] (.lit (.bool (p.fits l))) [] := by
  intro p
  induction p with
  | nul => exact fun _ l h1 h2 => ACalls.nulArg ((fits_mk 0 0 .empty 0 0 (fun _ => .nul) l (fun _ => true) (by omega) (by omega) (by omega) (fun _ i hi => absurd hi (by omega))).cast rfl rfl (by simp [PackT.fits, allN]) rfl)
  | mk k u t e n f ih =>
    intro hw l h1 h2
    exact fits_mk k u t e n f l (fun i => (f i).fits (l - 1)) hw.2.2.1 (by omega) (by omega) (fun h0 i hi => ih i (hw.2.2.2.2 i hi) (l - 1) (by omega) (by omega))

theorem packFitsC (p : PackT) (hw : p.wf) (l : Int) (h1 : 0 ≤ l) (h2 : l ≤ 1000000) : ACalls Try.prog noG 12 [pAV p, .lit (.int .i64 l)] [] (.lit (.bool (decide (p.cnt ≤ 2000) && p.fits l))) [] := by
  have a := fewC p hw 2000 (by omega)
  have b := fitsC p hw l (by omega) h2
  cases hd : decide (p.cnt ≤ 2000) with
  | false => rw [hd] at a; exact pf22a p l _ true ⟨a, trivial⟩
  | true => rw [hd] at a; exact (pf22b p l _ _ ⟨b, a, trivial⟩).cast rfl rfl (by simp) rfl

/-! ### How many there are, told -/
end Go.Ax
