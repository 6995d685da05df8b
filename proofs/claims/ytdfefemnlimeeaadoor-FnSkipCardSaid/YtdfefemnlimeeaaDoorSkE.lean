/-
  Heads of MessagePack's values, as getSize tells them.
-/
import Derived.Test.YtdfefemnlimeeaaDoorSkD
import Derived.Test.YtdfefemnlimeeaaDoorHiB
set_option linter.unusedVariables false
set_option linter.unusedSimpArgs false
set_option maxRecDepth 100000
namespace Go.Ax
open Go.Proofs

section
variable (u0 : Nat)

/-- A head is passed, with so many values behind it; what is cut off is refused. -/
def HeadOk (h : List UInt8) (c : Nat) : Prop :=
  (∀ r, GZ u0 (h ++ r) h.length c) ∧ ∀ m, m < h.length → GE u0 (h.take m) ∨ ∃ sz ob : Int, GZ u0 (h.take m) sz ob ∧ (m : Int) < sz

abbrev TAB (b : UInt8) (a e c z : Int) : Prop := ACalls Tryd.prog noG 60 [.lit (.int .u8 (b.toNat : Int))] [] (bsAV a e c z) []

theorem okF {b : UInt8} {t : List UInt8} {c z : Int} (a e : Nat) (hb : TAB b a e c z) (h : (b :: t).length = a) (ha : a < 256) (he : e < 128) : HeadOk u0 (b :: t) e := by
  have g := fun d => gzFix u0 b d a e c z hb (by simp at h; omega) (by omega) (by omega) (by omega)
  refine ⟨fun r => ?_, fun m hm => ?_⟩
  · have := g (t ++ r)
    rw [h]
    exact this
  · cases m with
    | zero => exact .inl (gz0 u0)
    | succ k => exact .inr ⟨a, e, g (t.take k), by omega⟩

theorem okV1 {b x : UInt8} {t : List UInt8} {c z : Int} (a : Nat) (hb : TAB b a (-1) c z) (h2 : 2 ≤ a) (ha : a < 256) (h : (b :: x :: t).length = a + x.toNat) : HeadOk u0 (b :: x :: t) 0 := by
  refine ⟨fun r => ?_, fun m hm => ?_⟩
  · have := gz1 u0 b x (t ++ r) a c z hb (by omega) (by omega) (by simp at h ⊢; omega)
    rw [h]
    exact this
  · match m with
    | 0 => exact .inl (gz0 u0)
    | k + 1 =>
      by_cases hk : k + 1 < a
      · exact .inl (gz1s u0 b ((x :: t).take k) a c z hb (by omega) (by omega) (by simp; omega))
      · match k with
        | 0 => omega
        | k + 1 => exact .inr ⟨_, _, gz1 u0 b x (t.take k) a c z hb (by omega) (by omega) (by simp at hm h ⊢; omega), by simp at hm h ⊢; omega⟩

theorem okV2 {b x0 x1 : UInt8} {t : List UInt8} {c z : Int} (a n : Nat) (hb : TAB b a (-2) c z) (h2 : 3 ≤ a) (ha : a < 256) (hn : ((x1.toNat + x0.toNat * 2 ^ 8 : Nat) : Int) = n) (h : (b :: x0 :: x1 :: t).length = a + n) : HeadOk u0 (b :: x0 :: x1 :: t) 0 := by
  have q0 := x0.toNat_lt
  have q1 := x1.toNat_lt
  refine ⟨fun r => ?_, fun m hm => ?_⟩
  · have := gz2 u0 b x0 x1 (t ++ r) a c z n hb (by omega) (by omega) (by simp at h ⊢; omega) hn (by omega)
    rw [h]
    exact this
  · match m with
    | 0 => exact .inl (gz0 u0)
    | k + 1 =>
      by_cases hk : k + 1 < a
      · exact .inl (gz2s u0 b ((x0 :: x1 :: t).take k) a c z hb (by omega) (by omega) (by simp; omega))
      · match k with
        | 0 => omega
        | 1 => omega
        | k + 2 => exact .inr ⟨_, _, gz2 u0 b x0 x1 (t.take k) a c z n hb (by omega) (by omega) (by simp at hm h ⊢; omega) hn (by omega), by simp at hm h ⊢; omega⟩

theorem okV3 {b x0 x1 x2 x3 : UInt8} {t : List UInt8} {c z : Int} (a n : Nat) (hb : TAB b a (-3) c z) (h2 : 5 ≤ a) (ha : a < 256) (hn : ((x3.toNat + x2.toNat * 2 ^ 8 + x1.toNat * 2 ^ 16 + x0.toNat * 2 ^ 24 : Nat) : Int) = n) (h : (b :: x0 :: x1 :: x2 :: x3 :: t).length = a + n) : HeadOk u0 (b :: x0 :: x1 :: x2 :: x3 :: t) 0 := by
  have q0 := x0.toNat_lt
  have q1 := x1.toNat_lt
  have q2 := x2.toNat_lt
  have q3 := x3.toNat_lt
  refine ⟨fun r => ?_, fun m hm => ?_⟩
  · have := gz3 u0 b x0 x1 x2 x3 (t ++ r) a c z n hb (by omega) (by omega) (by simp at h ⊢; omega) hn (by omega)
    rw [h]
    exact this
  · match m with
    | 0 => exact .inl (gz0 u0)
    | k + 1 =>
      by_cases hk : k + 1 < a
      · exact .inl (gz3s u0 b ((x0 :: x1 :: x2 :: x3 :: t).take k) a c z hb (by omega) (by omega) (by simp; omega))
      · match k with
        | 0 => omega
        | 1 => omega
        | 2 => omega
        | 3 => omega
        | k + 4 => exact .inr ⟨_, _, gz3 u0 b x0 x1 x2 x3 (t.take k) a c z n hb (by omega) (by omega) (by simp at hm h ⊢; omega) hn (by omega), by simp at hm h ⊢; omega⟩

theorem okV4 {b x0 x1 : UInt8} {c z : Int} (n : Nat) (hb : TAB b 3 (-4) c z) (hn : ((x1.toNat + x0.toNat * 2 ^ 8 : Nat) : Int) = n) : HeadOk u0 [b, x0, x1] (2 * n) := by
  have q0 := x0.toNat_lt
  have q1 := x1.toNat_lt
  refine ⟨fun r => gz4 u0 b x0 x1 r 3 c z n hb (by omega) (by omega) (by simp; omega) hn (by omega), fun m hm => ?_⟩
  match m with
  | 0 => exact .inl (gz0 u0)
  | k + 1 => exact .inl (gz4s u0 b ([x0, x1].take k) 3 c z hb (by omega) (by omega) (by simp at hm ⊢; omega))

theorem okV6 {b x0 x1 : UInt8} {c z : Int} (n : Nat) (hb : TAB b 3 (-6) c z) (hn : ((x1.toNat + x0.toNat * 2 ^ 8 : Nat) : Int) = n) : HeadOk u0 [b, x0, x1] n := by
  have q0 := x0.toNat_lt
  have q1 := x1.toNat_lt
  refine ⟨fun r => gz6 u0 b x0 x1 r 3 c z n hb (by omega) (by omega) (by simp; omega) hn (by omega), fun m hm => ?_⟩
  match m with
  | 0 => exact .inl (gz0 u0)
  | k + 1 => exact .inl (gz6s u0 b ([x0, x1].take k) 3 c z hb (by omega) (by omega) (by simp at hm ⊢; omega))

theorem okV5 {b x0 x1 x2 x3 : UInt8} {c z : Int} (n : Nat) (hb : TAB b 5 (-5) c z) (hn : ((x3.toNat + x2.toNat * 2 ^ 8 + x1.toNat * 2 ^ 16 + x0.toNat * 2 ^ 24 : Nat) : Int) = n) : HeadOk u0 [b, x0, x1, x2, x3] (2 * n) := by
  have q0 := x0.toNat_lt
  have q1 := x1.toNat_lt
  have q2 := x2.toNat_lt
  have q3 := x3.toNat_lt
  refine ⟨fun r => gz5 u0 b x0 x1 x2 x3 r 5 c z n hb (by omega) (by omega) (by simp; omega) hn (by omega), fun m hm => ?_⟩
  match m with
  | 0 => exact .inl (gz0 u0)
  | k + 1 => exact .inl (gz5s u0 b ([x0, x1, x2, x3].take k) 5 c z hb (by omega) (by omega) (by simp at hm ⊢; omega))

theorem okV7 {b x0 x1 x2 x3 : UInt8} {c z : Int} (n : Nat) (hb : TAB b 5 (-7) c z) (hn : ((x3.toNat + x2.toNat * 2 ^ 8 + x1.toNat * 2 ^ 16 + x0.toNat * 2 ^ 24 : Nat) : Int) = n) : HeadOk u0 [b, x0, x1, x2, x3] n := by
  have q0 := x0.toNat_lt
  have q1 := x1.toNat_lt
  have q2 := x2.toNat_lt
  have q3 := x3.toNat_lt
  refine ⟨fun r => gz7 u0 b x0 x1 x2 x3 r 5 c z n hb (by omega) (by omega) (by simp; omega) hn (by omega), fun m hm => ?_⟩
  match m with
  | 0 => exact .inl (gz0 u0)
  | k + 1 => exact .inl (gz7s u0 b ([x0, x1, x2, x3].take k) 5 c z hb (by omega) (by omega) (by simp at hm ⊢; omega))

/-! ### The table of first bytes -/
theorem tabLow (b : UInt8) (h : b.toNat < 128) : TAB b 1 0 8 0 :=
  cbA b.toNat 0 (by simp only [AllP]; repeat' (first | with_reducible apply And.intro | exact trivial | assumption | (simp; done) | (simp; omega)))

theorem tabHigh (b : UInt8) (h : 224 ≤ b.toNat) : TAB b 1 0 8 0 := by
  have hl := b.toNat_lt
  have w16 : IntKind.u16.wrap (b.toNat : Int) = b.toNat := by rw [wrapU16]; omega
  exact cbE b.toNat 0 (by simp only [AllP]; repeat' (first | with_reducible apply And.intro | exact trivial | assumption | (simp; done) | (simp; omega) | (simp [w16]; omega)))

theorem tStr : ∀ n : Fin 32, IntKind.u8.wrap ((BitVec.ofInt IntKind.u8.bits ((160 + n.val : Nat) : Int) &&& BitVec.ofInt IntKind.u8.bits (31 : Int)).toNat : Int) = (n.val : Int) := by decide +kernel
theorem tArr : ∀ n : Fin 16, IntKind.u8.wrap ((BitVec.ofInt IntKind.u8.bits ((144 + n.val : Nat) : Int) &&& BitVec.ofInt IntKind.u8.bits (15 : Int)).toNat : Int) = (n.val : Int) := by decide +kernel
theorem tMap : ∀ n : Fin 16, IntKind.u8.wrap ((BitVec.ofInt IntKind.u8.bits ((128 + n.val : Nat) : Int) &&& BitVec.ofInt IntKind.u8.bits (15 : Int)).toNat : Int) = (n.val : Int) := by decide +kernel

theorem tabStr (b : UInt8) (n : Nat) (hn : n < 32) (h : b.toNat = 160 + n) : TAB b ((1 + n : Nat) : Int) (0 : Nat) 1 0 := by
  have c := rf49 b.toNat trivial
  rw [show ((b.toNat : Int)) = ((160 + n : Nat) : Int) by omega, tStr ⟨n, hn⟩] at c
  have w : IntKind.u8.wrap (1 + (n : Int)) = ((1 + n : Nat) : Int) := by rw [wrapU8]; omega
  have := cbB ((160 + n : Nat) : Int) n (by simp only [AllP]; repeat' (first | with_reducible apply And.intro | exact trivial | assumption | (simp; done) | (simp; omega)))
  rw [w] at this
  simp only [TAB, h]
  exact this

theorem tabArr (b : UInt8) (n : Nat) (hn : n < 16) (h : b.toNat = 144 + n) : TAB b (1 : Nat) n 4 0 := by
  have c := rf62 b.toNat trivial
  rw [show ((b.toNat : Int)) = ((144 + n : Nat) : Int) by omega, tArr ⟨n, hn⟩] at c
  have w : IntKind.i8.wrap (n : Int) = (n : Int) := by rw [wrapI8]; omega
  have := cbD ((144 + n : Nat) : Int) n (by simp only [AllP]; repeat' (first | with_reducible apply And.intro | exact trivial | assumption | (simp; done) | (simp; omega)))
  rw [w] at this
  simp only [TAB, h]
  exact this

theorem tabMap (b : UInt8) (n : Nat) (hn : n < 16) (h : b.toNat = 128 + n) : TAB b (1 : Nat) ((2 * n : Nat) : Int) 3 0 := by
  have c := rf61 b.toNat trivial
  rw [show ((b.toNat : Int)) = ((128 + n : Nat) : Int) by omega, tMap ⟨n, hn⟩] at c
  have w : IntKind.i8.wrap (IntKind.u8.wrap (2 * (n : Int))) = ((2 * n : Nat) : Int) := by rw [wrapU8, wrapI8]; omega
  have := cbC ((128 + n : Nat) : Int) n (by simp only [AllP]; repeat' (first | with_reducible apply And.intro | exact trivial | assumption | (simp; done) | (simp; omega)))
  rw [w] at this
  simp only [TAB, h]
  exact this
end
end Go.Ax
