/-
  laws.allWritten: values one behind the other, each in a form of its own.
-/
import Derived.Test.YtkbmfpkbegjhcaaDoorSnA
set_option linter.unusedVariables false
set_option linter.unusedSimpArgs false
set_option maxRecDepth 100000
namespace Go.Ax
open Go.Proofs

def catM (g : Nat → List UInt8) : Nat → Nat → List UInt8
  | _, 0 => []
  | i, m + 1 => g i ++ catM g (i + 1) m

theorem catM_congr {g g' : Nat → List UInt8} : ∀ (m i : Nat), (∀ j, i ≤ j → j < i + m → g j = g' j) → catM g i m = catM g' i m
  | 0, _, _ => rfl
  | m + 1, i, h => by simp only [catM]; rw [h i (by omega) (by omega), catM_congr m (i + 1) (fun j h1 h2 => h j (by omega) (by omega))]

theorem catM_len {g : Nat → List UInt8} {B : Nat} : ∀ (m i : Nat), (∀ j, i ≤ j → j < i + m → (g j).length ≤ B) → (catM g i m).length ≤ m * B
  | 0, _, _ => by simp [catM]
  | m + 1, i, h => by
    have h1 := h i (by omega) (by omega)
    have h2 := catM_len m (i + 1) (fun j h1 h2 => h j (by omega) (by omega))
    simp only [catM, List.length_append, Nat.add_mul, Nat.one_mul]; omega

theorem wrapS (i : Nat) (h : i < 9223372036854775807) : IntKind.i64.wrap ((i : Int) + 1) = ((i + 1 : Nat) : Int) := by rw [wrap64 (by omega) (by omega)]; rfl

section
variable (k : Int) (u : Nat → Int) (t : Nat → ByteArray) (n : Nat)

def lc (i : Nat) : List AV := [iL k, uL (u i), sL (t i), iL 0, nL]
def slW (i : Nat) (out : AV) : List (Nat × AV) := [(5, .ptr 0 0), (6, out), (12, .ro 5 n (fun i => lc k u t i)), (13, iL n), (14, iL i)]

theorem writtenLoop (hn : n ≤ 1000000) (Q : Nat → List UInt8 → Prop) (B : Nat) (hB : B ≤ 100000)
    (ih : ∀ i, i < n → ∀ st : Int, ∃ y st', Q i y ∧ 1 ≤ y.length ∧ y.length ≤ B ∧ A0 27 [.agg (lc k u t i), .ptr 0 0] [FR st false] (.own 1 0 y.length none) [FR st' false, .bytes 5 y]) :
    ∀ (r i : Nat), n - i = r → i ≤ n → ∀ (st : Int) (x : List UInt8), x.length ≤ i * B →
      ∃ g st', (∀ j, i ≤ j → j < n → Q j (g j) ∧ 1 ≤ (g j).length ∧ (g j).length ≤ B) ∧
        LoopK Tryd.prog noG 1 25 (loopAt Tryd.f13 0) (slW k u t n i (.own 1 0 x.length none)) [FR st false, .bytes 5 x] (.exit 0)
          [(6, .own 1 0 (x ++ catM g i r).length none)] [FR st' false, .bytes 5 (x ++ catM g i r)]
  | 0, i, hr, hi, st, x, hx => by
    have hd : decide ((i : Int) < n) = false := by simp; omega
    refine ⟨fun _ => [], st, fun j h1 h2 => absurd h2 (by omega), ?_⟩
    have := LoopK.exit (k := 1) (awx k u t n i st x ⟨hd, trivial⟩) (by simp)
    simpa [catM, slW, lc] using this
  | r + 1, i, hr, hi, st, x, hx => by
    have hlt : i < n := by omega
    have hd : decide ((i : Int) < n) = true := by simp; omega
    have hb : (0 : Int) ≤ i ∧ (i : Int) < n := by omega
    obtain ⟨y, st1, hq, hy1, hy, hc⟩ := ih i hlt st
    have w := wrapS i (by omega)
    have hle : leAll [AV.agg [iL k, uL (u (i : Int).toNat), sL (t (i : Int).toNat), iL 0, nL], .ptr 0 0] [AV.agg [iL k, uL (u i), sL (t i), iL 0, nL], .ptr 0 0] := by rw [Int.toNat_natCast]; exact leAll_refl _
    have ht : (List.take y.length (List.drop 0 y)).length = y.length := by simp
    have hiB : i * B ≤ 1000000 * 100000 := Nat.mul_le_mul (by omega) hB
    have stp := awg k u t n i st st1 x y ⟨by rw [ht]; omega, hc, hle, ⟨RowLe.refl _, trivial⟩, by omega, hb, hd, trivial⟩
    rw [w] at stp
    obtain ⟨g, st', h1, h3⟩ := writtenLoop hn Q B hB ih r (i + 1) (by omega) (by omega) st1 (x ++ y) (by simp [Nat.add_mul]; omega)
    let g' : Nat → List UInt8 := fun j => if j = i then y else g j
    have hg : catM g' (i + 1) r = catM g (i + 1) r := catM_congr r (i + 1) (fun j q1 q2 => by simp only [g']; rw [if_neg (by omega)])
    have hg0 : g' i = y := by simp [g']
    refine ⟨g', st', fun j q1 q2 => ?_, ?_⟩
    · by_cases hj : j = i
      · subst hj; rw [hg0]; exact ⟨hq, hy1, hy⟩
      · simp only [g']; rw [if_neg hj]; exact h1 j (by omega) q2
    · have es : x ++ catM g' i (r + 1) = x ++ y ++ catM g (i + 1) r := by simp only [catM, hg, hg0, List.append_assoc]
      rw [es]
      refine LoopK.step [some 0, some 2] stp rfl ?_
      refine h3.cast ?_ ?_ rfl rfl
      · rw [show (x ++ y).length = x.length + (List.take y.length (List.drop 0 y)).length by simp]; rfl
      · simp [outM, Row.ren, AV.renL, AV.ren, hL, nth]

/-- laws.allWritten: each value's bytes, one behind the other. -/
theorem writtenC (hn : n ≤ 1000000) (Q : Nat → List UInt8 → Prop) (B : Nat) (hB : B ≤ 100000) (st : Int)
    (ih : ∀ i, i < n → ∀ st : Int, ∃ y st', Q i y ∧ 1 ≤ y.length ∧ y.length ≤ B ∧ A0 27 [.agg (lc k u t i), .ptr 0 0] [FR st false] (.own 1 0 y.length none) [FR st' false, .bytes 5 y]) :
    ∃ g : Nat → List UInt8, (∀ j, j < n → Q j (g j) ∧ 1 ≤ (g j).length ∧ (g j).length ≤ B) ∧ A0 13 [.ro 5 n (fun i => lc k u t i), uL st] [] (.bts (catM g 0 n)) [] := by
  rcases Nat.eq_zero_or_pos n with h0 | h0
  · subst h0
    refine ⟨fun _ => [], fun j hj => absurd hj (by omega), ?_⟩
    have lp : C0 25 (loopAt Tryd.f13 0).loop (slW k u t 0 0 nL) [FR st false] (.exit 0) [(6, nL)] [FR st false] := (LoopC.exit (awz k u t 0 0 st ⟨by simp, trivial⟩) (by simp)).code
    refine (aw0 k u t 0 st ⟨lp, by simp only [Le.refl, and_self], ⟨RowLe.refl _, trivial⟩, trivial⟩).le (leAll_refl _) ?_ rfl
    exact Le_nil
  · obtain ⟨y, st1, hq, hy1, hy, hc⟩ := ih 0 h0 st
    have hle : leAll [AV.agg [iL k, uL (u ((0 : Nat) : Int).toNat), sL (t ((0 : Nat) : Int).toNat), iL 0, nL], .ptr 0 0] [AV.agg [iL k, uL (u 0), sL (t 0), iL 0, nL], .ptr 0 0] := by rw [Int.toNat_natCast]; exact leAll_refl _
    have ht : (List.take y.length (List.drop 0 y)).length = y.length := by simp
    have stp := awf k u t n 0 st st1 y ⟨by rw [ht]; omega, hc, hle, ⟨RowLe.refl _, trivial⟩, by omega, by omega, by simp; omega, trivial⟩
    rw [wrapS 0 (by omega)] at stp
    obtain ⟨g, st', h1, h3⟩ := writtenLoop k u t n hn Q B hB ih (n - 1) 1 (by omega) (by omega) st1 y (by omega)
    let g' : Nat → List UInt8 := fun j => if j = 0 then y else g j
    have hg : catM g' 1 (n - 1) = catM g 1 (n - 1) := catM_congr (n - 1) 1 (fun j q1 q2 => by simp only [g']; rw [if_neg (by omega)])
    have hg0 : g' 0 = y := by simp [g']
    have hcat : catM g' 0 n = y ++ catM g 1 (n - 1) := by
      obtain ⟨m, rfl⟩ : ∃ m, n = m + 1 := ⟨n - 1, by omega⟩
      simp only [catM, hg0, Nat.add_sub_cancel, Nat.zero_add] at hg ⊢
      rw [hg]
    refine ⟨g', fun j q2 => ?_, ?_⟩
    · by_cases hj : j = 0
      · subst hj; rw [hg0]; exact ⟨hq, hy1, hy⟩
      · simp only [g']; rw [if_neg hj]; exact h1 j (by omega) q2
    · rw [hcat]
      have e3 := LoopK.step (k := 1) [some 0, some 1] stp rfl (h3.cast (by simp only [slW, lc, renS, ht]; rfl) (by simp [outM, Row.ren, AV.renL, AV.ren, hL, nth]) rfl rfl)
      have e4 := LoopK.code [some 0, some 1] e3 rfl rfl
      have lp : C0 25 (loopAt Tryd.f13 0).loop (slW k u t n 0 nL) [FR st false] (.exit 0) [(6, .own 1 0 (y ++ catM g 1 (n - 1)).length none)] [FR st' false, .bytes 5 (y ++ catM g 1 (n - 1))] := e4.cast rfl rfl rfl (by simp [outM, Row.ren, AV.renL, AV.ren, hL, nth])
      refine ((awn k u t n st st' (y ++ catM g 1 (n - 1)) ⟨lp, by simp only [Le.refl, and_self], ⟨RowLe.refl _, trivial⟩, trivial⟩).freezeRet 0 rfl rfl).only [] rfl |>.cast rfl rfl ?_ rfl
      simp [AV.frz, frzOwn, AV.ren]
      exact List.take_of_length_le (by simp)
end
end Go.Ax
