/-
  What a Reader over a stream reads: numbers without a sign.
-/
import Derived.Test.YtkbmfpkbegjhcaaDoorSm6
import Derived.Test.YtkbmfpkbegjhcaaDoorSm8
import Derived.Test.YtkbmfpkbegjhcaaDoorSm9
import Derived.Test.YtkbmfpkbegjhcaaDoorSmA
set_option linter.unusedVariables false
set_option linter.unusedSimpArgs false
set_option maxRecDepth 100000
namespace Go.Ax
open Go.Proofs

/-- A Reader's operation takes these bytes off a stream: with a buffer; without. -/
def GetsO (f : FuncId) (ret : AV) (a : List UInt8) : Prop :=
  ∀ (T z g o r l p : Nat) (bf dat t : List UInt8), Held T z g o r l p bf dat (a ++ t) →
    ∃ o2 r2 l2 p2 bf2, Held T z g o2 r2 l2 p2 bf2 dat t ∧ A0 f [.ptr 0 0] (rowsRO z g o r l p bf dat) ret (rowsRP z g o2 r2 l2 p2 bf2 dat)
def GetsN (f : FuncId) (ret : AV) (a : List UInt8) : Prop :=
  ∀ (T z g : Nat) (t : List UInt8), (a ++ t).length ≤ T → T ≤ 1000000000000 → 16 ≤ z ∧ z ≤ 65536 → 1 ≤ g ∧ g ≤ 65536 →
    ∃ o2 r2 l2 p2 bf2, Held T z g o2 r2 l2 p2 bf2 (a ++ t) t ∧ A0 f [.ptr 0 0] (rowsRN z g 0 (a ++ t).length (a ++ t)) ret (rowsRQ z g o2 r2 l2 p2 bf2 (a ++ t))

theorem isFix (b : UInt8) (h : b.toNat < 128) : A0 101 [u8 b] [] (bL true) [] :=
  (q101 b.toNat (by simp [AllP])).cast rfl rfl (by
    have : ((b.toNat : Int).fdiv 128) = 0 := by rw [Int.fdiv_eq_ediv_of_nonneg _ (by omega)]; omega
    rw [this]; rfl) rfl
theorem notFix (v : Int) (h : 128 ≤ v ∧ v < 256) : A0 101 [.lit (.int .u8 v)] [] (bL false) [] :=
  (q101 v (by simp [AllP])).cast rfl rfl (by
    have : (v.fdiv 128) = 1 := by rw [Int.fdiv_eq_ediv_of_nonneg _ (by omega)]; omega
    rw [this]; rfl) rfl

theorem readUfixO (b : UInt8) (h : b.toNat < 128) : GetsO 70 (.tup [uL b.toNat, nI]) [b] := fun T z g o r l p bf dat t S => by
  obtain ⟨o2, r2, l2, p2, bf2, S2, C2⟩ := peekO (b := b) (t := t) S
  obtain ⟨o3, r3, l3, p3, bf3, S3, C3⟩ := skipO (a := [b]) (t := t) S2 1 rfl
  refine ⟨o3, r3, l3, p3, bf3, S3, ?_⟩
  have w : IntKind.u64.wrap (b.toNat : Int) = b.toNat := by rw [wrapU64]; omega
  refine (ruOfix z g o r l p o2 r2 l2 p2 o3 r3 l3 0 p3 bf bf2 bf3 dat b ?_).cast rfl rfl (by rw [w]) rfl
  simp only [AllP, leAll]
  exact ⟨C3, ⟨Le.refl _, Le.refl _, trivial⟩, ⟨RowLe.refl _, RowLe.refl _, RowLe.refl _, RowLe.refl _, trivial⟩, q102 _ trivial, ⟨Le.refl _, trivial⟩, trivial, trivial, isFix b h, ⟨Le.refl _, trivial⟩, trivial, trivial, C2,
    ⟨Le.refl _, trivial⟩, ⟨RowLe.refl _, RowLe.refl _, RowLe.refl _, RowLe.refl _, trivial⟩, trivial⟩

theorem readUfixN (b : UInt8) (h : b.toNat < 128) : GetsN 70 (.tup [uL b.toNat, nI]) [b] := fun T z g t hT hT2 hz hg => by
  obtain ⟨o2, r2, l2, p2, bf2, S2, C2⟩ := peekN T z g b t hT hT2 hz hg
  obtain ⟨o3, r3, l3, p3, bf3, S3, C3⟩ := skipO (a := [b]) (t := t) S2 1 rfl
  refine ⟨o3, r3, l3, p3, bf3, S3, ?_⟩
  have w : IntKind.u64.wrap (b.toNat : Int) = b.toNat := by rw [wrapU64]; omega
  refine (ruNfix z g 0 (b :: t).length o2 r2 l2 p2 o3 r3 l3 0 p3 bf2 bf3 (b :: t) b ?_).cast rfl rfl (by rw [w]) rfl
  simp only [AllP, leAll]
  exact ⟨C3, ⟨Le.refl _, Le.refl _, trivial⟩, ⟨RowLe.refl _, RowLe.refl _, RowLe.refl _, RowLe.refl _, trivial⟩, q102 _ trivial, ⟨Le.refl _, trivial⟩, trivial, trivial, isFix b h, ⟨Le.refl _, trivial⟩, trivial, trivial, C2,
    ⟨Le.refl _, trivial⟩, ⟨RowLe.refl _, RowLe.refl _, RowLe.refl _, trivial⟩, trivial⟩

/-- The bytes at a place, one by one. -/
theorem byte_at {bf : List UInt8} {p n : Nat} {a : List UInt8} (h : (bf.drop p).take n = a) (i : Nat) (hi : i < a.length) (hn : a.length = n) : bf.getD (p + i) 0 = a.getD i 0 := by
  subst h
  simp only [List.getD, List.getElem?_take, List.getElem?_drop]
  rw [if_pos (by omega)]

/-! ### forms -/
theorem readU204O (x1 : UInt8) : GetsO 70 (.tup [uL ((x1.toNat : Nat) : Int), nI]) [204, x1] := fun T z g o r l p bf dat t S => by
  obtain ⟨o2, r2, l2, p2, bf2, S2, C2⟩ := peekO (b := 204) (t := x1 :: t) S
  obtain ⟨o3, r3, l3, p3, bf3, S3, hb, hlen, C3⟩ := nextO (a := [204, x1]) (t := t) S2 2 rfl
  refine ⟨o3, r3, l3, p3 + 2, bf3, S3, ?_⟩
  have b1 : bf3.getD (p3 + 1) 0 = x1 := byte_at hb 1 (by simp) rfl
  have h1 := x1.toNat_lt
  have M : A0 106 [.own 0 p3 2 none] [.bytes 5 bf3] (.lit (.int .u8 (x1.toNat : Int))) [.bytes 5 bf3] := by
    have q := g106 bf3 p3 (by simp only [AllP]; exact ⟨by omega, trivial⟩)
    rw [b1] at q
    exact q
  have w : IntKind.u64.wrap ((x1.toNat : Nat) : Int) = ((x1.toNat : Nat) : Int) := by rw [wrapU64]; omega
  refine (ruO204 z g o r l p o2 r2 l2 p2 o3 r3 l3 p3 (p3 + 2) bf bf2 bf3 dat ((x1.toNat : Nat) : Int) ?_).cast rfl rfl (by rw [w]) rfl
  simp only [AllP, leAll]
  repeat' (first | exact trivial | exact rfl | exact M | exact C3 | exact C2 | exact notFix _ (by omega) | exact Le.refl _ | exact RowLe.refl _ | with_reducible apply And.intro)
theorem readU205O (x1 x2 : UInt8) : GetsO 70 (.tup [uL (((x1.toNat) * 256 + x2.toNat : Nat) : Int), nI]) [205, x1, x2] := fun T z g o r l p bf dat t S => by
  obtain ⟨o2, r2, l2, p2, bf2, S2, C2⟩ := peekO (b := 205) (t := x1 :: x2 :: t) S
  obtain ⟨o3, r3, l3, p3, bf3, S3, hb, hlen, C3⟩ := nextO (a := [205, x1, x2]) (t := t) S2 3 rfl
  refine ⟨o3, r3, l3, p3 + 3, bf3, S3, ?_⟩
  have b1 : bf3.getD (p3 + 1) 0 = x1 := byte_at hb 1 (by simp) rfl
  have h1 := x1.toNat_lt
  have b2 : bf3.getD (p3 + 2) 0 = x2 := byte_at hb 2 (by simp) rfl
  have h2 := x2.toNat_lt
  have M := getM108 bf3 p3 (by omega)
  have w0 : IntKind.u16.wrap (((x1.toNat) * 256 + x2.toNat : Nat) : Int) = (((x1.toNat) * 256 + x2.toNat : Nat) : Int) := by simp only [IntKind.wrap, IntKind.bits, IntKind.signed]; simp; omega
  rw [b1, b2, m108_eq, w0] at M
  have w : IntKind.u64.wrap (((x1.toNat) * 256 + x2.toNat : Nat) : Int) = (((x1.toNat) * 256 + x2.toNat : Nat) : Int) := by rw [wrapU64]; omega
  refine (ruO205 z g o r l p o2 r2 l2 p2 o3 r3 l3 p3 (p3 + 3) bf bf2 bf3 dat (((x1.toNat) * 256 + x2.toNat : Nat) : Int) ?_).cast rfl rfl (by rw [w]) rfl
  simp only [AllP, leAll]
  repeat' (first | exact trivial | exact rfl | exact M | exact C3 | exact C2 | exact notFix _ (by omega) | exact Le.refl _ | exact RowLe.refl _ | with_reducible apply And.intro)
theorem readU208O (x1 : UInt8) (h0 : x1.toNat < 128) : GetsO 70 (.tup [uL ((x1.toNat : Nat) : Int), nI]) [208, x1] := fun T z g o r l p bf dat t S => by
  obtain ⟨o2, r2, l2, p2, bf2, S2, C2⟩ := peekO (b := 208) (t := x1 :: t) S
  obtain ⟨o3, r3, l3, p3, bf3, S3, hb, hlen, C3⟩ := nextO (a := [208, x1]) (t := t) S2 2 rfl
  refine ⟨o3, r3, l3, p3 + 2, bf3, S3, ?_⟩
  have b1 : bf3.getD (p3 + 1) 0 = x1 := byte_at hb 1 (by simp) rfl
  have h1 := x1.toNat_lt
  have M : A0 105 [.own 0 p3 2 none] [.bytes 5 bf3] (.lit (.int .i8 (x1.toNat : Int))) [.bytes 5 bf3] := by
    have q := g105 bf3 p3 (by simp only [AllP]; exact ⟨by omega, trivial⟩)
    rw [b1] at q
    have w0 : IntKind.i8.wrap (x1.toNat : Int) = x1.toNat := by simp only [IntKind.wrap, IntKind.bits, IntKind.signed]; simp; omega
    rw [w0] at q
    exact q
  have w : IntKind.u64.wrap ((x1.toNat : Nat) : Int) = ((x1.toNat : Nat) : Int) := by rw [wrapU64]; omega
  have w2 : IntKind.i64.wrap ((x1.toNat : Nat) : Int) = ((x1.toNat : Nat) : Int) := wrap64 (by omega) (by omega)
  have d0 : decide (((x1.toNat : Nat) : Int) < 0) = false := decide_eq_false (by omega)
  refine (ruO208 z g o r l p o2 r2 l2 p2 o3 r3 l3 p3 (p3 + 2) bf bf2 bf3 dat ((x1.toNat : Nat) : Int) ?_).cast rfl rfl (by rw [w2, w]) rfl
  simp only [AllP, leAll, w2, d0]
  repeat' (first | exact trivial | exact rfl | exact M | exact C3 | exact C2 | exact notFix _ (by omega) | exact Le.refl _ | exact RowLe.refl _ | with_reducible apply And.intro)
theorem readU209O (x1 x2 : UInt8) (h0 : x1.toNat < 128) : GetsO 70 (.tup [uL (((x1.toNat) * 256 + x2.toNat : Nat) : Int), nI]) [209, x1, x2] := fun T z g o r l p bf dat t S => by
  obtain ⟨o2, r2, l2, p2, bf2, S2, C2⟩ := peekO (b := 209) (t := x1 :: x2 :: t) S
  obtain ⟨o3, r3, l3, p3, bf3, S3, hb, hlen, C3⟩ := nextO (a := [209, x1, x2]) (t := t) S2 3 rfl
  refine ⟨o3, r3, l3, p3 + 3, bf3, S3, ?_⟩
  have b1 : bf3.getD (p3 + 1) 0 = x1 := byte_at hb 1 (by simp) rfl
  have h1 := x1.toNat_lt
  have b2 : bf3.getD (p3 + 2) 0 = x2 := byte_at hb 2 (by simp) rfl
  have h2 := x2.toNat_lt
  have M := getM107 bf3 p3 (by omega)
  have w0 : IntKind.i16.wrap (((x1.toNat) * 256 + x2.toNat : Nat) : Int) = (((x1.toNat) * 256 + x2.toNat : Nat) : Int) := by simp only [IntKind.wrap, IntKind.bits, IntKind.signed]; simp; omega
  rw [b1, b2, m107_eq, w0] at M
  have w : IntKind.u64.wrap (((x1.toNat) * 256 + x2.toNat : Nat) : Int) = (((x1.toNat) * 256 + x2.toNat : Nat) : Int) := by rw [wrapU64]; omega
  have w2 : IntKind.i64.wrap (((x1.toNat) * 256 + x2.toNat : Nat) : Int) = (((x1.toNat) * 256 + x2.toNat : Nat) : Int) := wrap64 (by omega) (by omega)
  have d0 : decide ((((x1.toNat) * 256 + x2.toNat : Nat) : Int) < 0) = false := decide_eq_false (by omega)
  refine (ruO209 z g o r l p o2 r2 l2 p2 o3 r3 l3 p3 (p3 + 3) bf bf2 bf3 dat (((x1.toNat) * 256 + x2.toNat : Nat) : Int) ?_).cast rfl rfl (by rw [w2, w]) rfl
  simp only [AllP, leAll, w2, d0]
  repeat' (first | exact trivial | exact rfl | exact M | exact C3 | exact C2 | exact notFix _ (by omega) | exact Le.refl _ | exact RowLe.refl _ | with_reducible apply And.intro)
theorem readU210O (x1 x2 x3 x4 : UInt8) (h0 : x1.toNat < 128) : GetsO 70 (.tup [uL (((((x1.toNat) * 256 + x2.toNat) * 256 + x3.toNat) * 256 + x4.toNat : Nat) : Int), nI]) [210, x1, x2, x3, x4] := fun T z g o r l p bf dat t S => by
  obtain ⟨o2, r2, l2, p2, bf2, S2, C2⟩ := peekO (b := 210) (t := x1 :: x2 :: x3 :: x4 :: t) S
  obtain ⟨o3, r3, l3, p3, bf3, S3, hb, hlen, C3⟩ := nextO (a := [210, x1, x2, x3, x4]) (t := t) S2 5 rfl
  refine ⟨o3, r3, l3, p3 + 5, bf3, S3, ?_⟩
  have b1 : bf3.getD (p3 + 1) 0 = x1 := byte_at hb 1 (by simp) rfl
  have h1 := x1.toNat_lt
  have b2 : bf3.getD (p3 + 2) 0 = x2 := byte_at hb 2 (by simp) rfl
  have h2 := x2.toNat_lt
  have b3 : bf3.getD (p3 + 3) 0 = x3 := byte_at hb 3 (by simp) rfl
  have h3 := x3.toNat_lt
  have b4 : bf3.getD (p3 + 4) 0 = x4 := byte_at hb 4 (by simp) rfl
  have h4 := x4.toNat_lt
  have M := getM109 bf3 p3 (by omega)
  have w0 : IntKind.i32.wrap (((((x1.toNat) * 256 + x2.toNat) * 256 + x3.toNat) * 256 + x4.toNat : Nat) : Int) = (((((x1.toNat) * 256 + x2.toNat) * 256 + x3.toNat) * 256 + x4.toNat : Nat) : Int) := by simp only [IntKind.wrap, IntKind.bits, IntKind.signed]; simp; omega
  rw [b1, b2, b3, b4, m109_eq, w0] at M
  have w : IntKind.u64.wrap (((((x1.toNat) * 256 + x2.toNat) * 256 + x3.toNat) * 256 + x4.toNat : Nat) : Int) = (((((x1.toNat) * 256 + x2.toNat) * 256 + x3.toNat) * 256 + x4.toNat : Nat) : Int) := by rw [wrapU64]; omega
  have w2 : IntKind.i64.wrap (((((x1.toNat) * 256 + x2.toNat) * 256 + x3.toNat) * 256 + x4.toNat : Nat) : Int) = (((((x1.toNat) * 256 + x2.toNat) * 256 + x3.toNat) * 256 + x4.toNat : Nat) : Int) := wrap64 (by omega) (by omega)
  have d0 : decide ((((((x1.toNat) * 256 + x2.toNat) * 256 + x3.toNat) * 256 + x4.toNat : Nat) : Int) < 0) = false := decide_eq_false (by omega)
  refine (ruO210 z g o r l p o2 r2 l2 p2 o3 r3 l3 p3 (p3 + 5) bf bf2 bf3 dat (((((x1.toNat) * 256 + x2.toNat) * 256 + x3.toNat) * 256 + x4.toNat : Nat) : Int) ?_).cast rfl rfl (by rw [w2, w]) rfl
  simp only [AllP, leAll, w2, d0]
  repeat' (first | exact trivial | exact rfl | exact M | exact C3 | exact C2 | exact notFix _ (by omega) | exact Le.refl _ | exact RowLe.refl _ | with_reducible apply And.intro)
theorem readU211O (x1 x2 x3 x4 x5 x6 x7 x8 : UInt8) (h0 : x1.toNat < 128) : GetsO 70 (.tup [uL (((((((((x1.toNat) * 256 + x2.toNat) * 256 + x3.toNat) * 256 + x4.toNat) * 256 + x5.toNat) * 256 + x6.toNat) * 256 + x7.toNat) * 256 + x8.toNat : Nat) : Int), nI]) [211, x1, x2, x3, x4, x5, x6, x7, x8] := fun T z g o r l p bf dat t S => by
  obtain ⟨o2, r2, l2, p2, bf2, S2, C2⟩ := peekO (b := 211) (t := x1 :: x2 :: x3 :: x4 :: x5 :: x6 :: x7 :: x8 :: t) S
  obtain ⟨o3, r3, l3, p3, bf3, S3, hb, hlen, C3⟩ := nextO (a := [211, x1, x2, x3, x4, x5, x6, x7, x8]) (t := t) S2 9 rfl
  refine ⟨o3, r3, l3, p3 + 9, bf3, S3, ?_⟩
  have b1 : bf3.getD (p3 + 1) 0 = x1 := byte_at hb 1 (by simp) rfl
  have h1 := x1.toNat_lt
  have b2 : bf3.getD (p3 + 2) 0 = x2 := byte_at hb 2 (by simp) rfl
  have h2 := x2.toNat_lt
  have b3 : bf3.getD (p3 + 3) 0 = x3 := byte_at hb 3 (by simp) rfl
  have h3 := x3.toNat_lt
  have b4 : bf3.getD (p3 + 4) 0 = x4 := byte_at hb 4 (by simp) rfl
  have h4 := x4.toNat_lt
  have b5 : bf3.getD (p3 + 5) 0 = x5 := byte_at hb 5 (by simp) rfl
  have h5 := x5.toNat_lt
  have b6 : bf3.getD (p3 + 6) 0 = x6 := byte_at hb 6 (by simp) rfl
  have h6 := x6.toNat_lt
  have b7 : bf3.getD (p3 + 7) 0 = x7 := byte_at hb 7 (by simp) rfl
  have h7 := x7.toNat_lt
  have b8 : bf3.getD (p3 + 8) 0 = x8 := byte_at hb 8 (by simp) rfl
  have h8 := x8.toNat_lt
  have M := getM111 bf3 p3 (by omega)
  have w0 : IntKind.i64.wrap (((((((((x1.toNat) * 256 + x2.toNat) * 256 + x3.toNat) * 256 + x4.toNat) * 256 + x5.toNat) * 256 + x6.toNat) * 256 + x7.toNat) * 256 + x8.toNat : Nat) : Int) = (((((((((x1.toNat) * 256 + x2.toNat) * 256 + x3.toNat) * 256 + x4.toNat) * 256 + x5.toNat) * 256 + x6.toNat) * 256 + x7.toNat) * 256 + x8.toNat : Nat) : Int) := by simp only [IntKind.wrap, IntKind.bits, IntKind.signed]; simp; omega
  rw [b1, b2, b3, b4, b5, b6, b7, b8, m111_eq, w0] at M
  have w : IntKind.u64.wrap (((((((((x1.toNat) * 256 + x2.toNat) * 256 + x3.toNat) * 256 + x4.toNat) * 256 + x5.toNat) * 256 + x6.toNat) * 256 + x7.toNat) * 256 + x8.toNat : Nat) : Int) = (((((((((x1.toNat) * 256 + x2.toNat) * 256 + x3.toNat) * 256 + x4.toNat) * 256 + x5.toNat) * 256 + x6.toNat) * 256 + x7.toNat) * 256 + x8.toNat : Nat) : Int) := by rw [wrapU64]; omega
  have w2 : IntKind.i64.wrap (((((((((x1.toNat) * 256 + x2.toNat) * 256 + x3.toNat) * 256 + x4.toNat) * 256 + x5.toNat) * 256 + x6.toNat) * 256 + x7.toNat) * 256 + x8.toNat : Nat) : Int) = (((((((((x1.toNat) * 256 + x2.toNat) * 256 + x3.toNat) * 256 + x4.toNat) * 256 + x5.toNat) * 256 + x6.toNat) * 256 + x7.toNat) * 256 + x8.toNat : Nat) : Int) := wrap64 (by omega) (by omega)
  have d0 : decide ((((((((((x1.toNat) * 256 + x2.toNat) * 256 + x3.toNat) * 256 + x4.toNat) * 256 + x5.toNat) * 256 + x6.toNat) * 256 + x7.toNat) * 256 + x8.toNat : Nat) : Int) < 0) = false := decide_eq_false (by omega)
  refine (ruO211 z g o r l p o2 r2 l2 p2 o3 r3 l3 p3 (p3 + 9) bf bf2 bf3 dat (((((((((x1.toNat) * 256 + x2.toNat) * 256 + x3.toNat) * 256 + x4.toNat) * 256 + x5.toNat) * 256 + x6.toNat) * 256 + x7.toNat) * 256 + x8.toNat : Nat) : Int) ?_).cast rfl rfl (by rw [w]) rfl
  simp only [AllP, leAll, w2, d0]
  repeat' (first | exact trivial | exact rfl | exact M | exact C3 | exact C2 | exact notFix _ (by omega) | exact Le.refl _ | exact RowLe.refl _ | with_reducible apply And.intro)
theorem readU204N (x1 : UInt8) : GetsN 70 (.tup [uL ((x1.toNat : Nat) : Int), nI]) [204, x1] := fun T z g t hT hT2 hz hg => by
  obtain ⟨o2, r2, l2, p2, bf2, S2, C2⟩ := peekN T z g 204 (x1 :: t) hT hT2 hz hg
  obtain ⟨o3, r3, l3, p3, bf3, S3, hb, hlen, C3⟩ := nextO (a := [204, x1]) (t := t) S2 2 rfl
  refine ⟨o3, r3, l3, p3 + 2, bf3, S3, ?_⟩
  have b1 : bf3.getD (p3 + 1) 0 = x1 := byte_at hb 1 (by simp) rfl
  have h1 := x1.toNat_lt
  have M : A0 106 [.own 0 p3 2 none] [.bytes 5 bf3] (.lit (.int .u8 (x1.toNat : Int))) [.bytes 5 bf3] := by
    have q := g106 bf3 p3 (by simp only [AllP]; exact ⟨by omega, trivial⟩)
    rw [b1] at q
    exact q
  have w : IntKind.u64.wrap ((x1.toNat : Nat) : Int) = ((x1.toNat : Nat) : Int) := by rw [wrapU64]; omega
  refine (ruN204 z g 0 ([204, x1] ++ t).length o2 r2 l2 p2 o3 r3 l3 p3 (p3 + 2) bf2 bf3 ([204, x1] ++ t) ((x1.toNat : Nat) : Int) ?_).cast rfl rfl (by rw [w]) rfl
  simp only [AllP, leAll]
  repeat' (first | exact trivial | exact rfl | exact M | exact C3 | exact C2 | exact notFix _ (by omega) | exact Le.refl _ | exact RowLe.refl _ | with_reducible apply And.intro)
theorem readU205N (x1 x2 : UInt8) : GetsN 70 (.tup [uL (((x1.toNat) * 256 + x2.toNat : Nat) : Int), nI]) [205, x1, x2] := fun T z g t hT hT2 hz hg => by
  obtain ⟨o2, r2, l2, p2, bf2, S2, C2⟩ := peekN T z g 205 (x1 :: x2 :: t) hT hT2 hz hg
  obtain ⟨o3, r3, l3, p3, bf3, S3, hb, hlen, C3⟩ := nextO (a := [205, x1, x2]) (t := t) S2 3 rfl
  refine ⟨o3, r3, l3, p3 + 3, bf3, S3, ?_⟩
  have b1 : bf3.getD (p3 + 1) 0 = x1 := byte_at hb 1 (by simp) rfl
  have h1 := x1.toNat_lt
  have b2 : bf3.getD (p3 + 2) 0 = x2 := byte_at hb 2 (by simp) rfl
  have h2 := x2.toNat_lt
  have M := getM108 bf3 p3 (by omega)
  have w0 : IntKind.u16.wrap (((x1.toNat) * 256 + x2.toNat : Nat) : Int) = (((x1.toNat) * 256 + x2.toNat : Nat) : Int) := by simp only [IntKind.wrap, IntKind.bits, IntKind.signed]; simp; omega
  rw [b1, b2, m108_eq, w0] at M
  have w : IntKind.u64.wrap (((x1.toNat) * 256 + x2.toNat : Nat) : Int) = (((x1.toNat) * 256 + x2.toNat : Nat) : Int) := by rw [wrapU64]; omega
  refine (ruN205 z g 0 ([205, x1, x2] ++ t).length o2 r2 l2 p2 o3 r3 l3 p3 (p3 + 3) bf2 bf3 ([205, x1, x2] ++ t) (((x1.toNat) * 256 + x2.toNat : Nat) : Int) ?_).cast rfl rfl (by rw [w]) rfl
  simp only [AllP, leAll]
  repeat' (first | exact trivial | exact rfl | exact M | exact C3 | exact C2 | exact notFix _ (by omega) | exact Le.refl _ | exact RowLe.refl _ | with_reducible apply And.intro)
theorem readU208N (x1 : UInt8) (h0 : x1.toNat < 128) : GetsN 70 (.tup [uL ((x1.toNat : Nat) : Int), nI]) [208, x1] := fun T z g t hT hT2 hz hg => by
  obtain ⟨o2, r2, l2, p2, bf2, S2, C2⟩ := peekN T z g 208 (x1 :: t) hT hT2 hz hg
  obtain ⟨o3, r3, l3, p3, bf3, S3, hb, hlen, C3⟩ := nextO (a := [208, x1]) (t := t) S2 2 rfl
  refine ⟨o3, r3, l3, p3 + 2, bf3, S3, ?_⟩
  have b1 : bf3.getD (p3 + 1) 0 = x1 := byte_at hb 1 (by simp) rfl
  have h1 := x1.toNat_lt
  have M : A0 105 [.own 0 p3 2 none] [.bytes 5 bf3] (.lit (.int .i8 (x1.toNat : Int))) [.bytes 5 bf3] := by
    have q := g105 bf3 p3 (by simp only [AllP]; exact ⟨by omega, trivial⟩)
    rw [b1] at q
    have w0 : IntKind.i8.wrap (x1.toNat : Int) = x1.toNat := by simp only [IntKind.wrap, IntKind.bits, IntKind.signed]; simp; omega
    rw [w0] at q
    exact q
  have w : IntKind.u64.wrap ((x1.toNat : Nat) : Int) = ((x1.toNat : Nat) : Int) := by rw [wrapU64]; omega
  have w2 : IntKind.i64.wrap ((x1.toNat : Nat) : Int) = ((x1.toNat : Nat) : Int) := wrap64 (by omega) (by omega)
  have d0 : decide (((x1.toNat : Nat) : Int) < 0) = false := decide_eq_false (by omega)
  refine (ruN208 z g 0 ([208, x1] ++ t).length o2 r2 l2 p2 o3 r3 l3 p3 (p3 + 2) bf2 bf3 ([208, x1] ++ t) ((x1.toNat : Nat) : Int) ?_).cast rfl rfl (by rw [w2, w]) rfl
  simp only [AllP, leAll, w2, d0]
  repeat' (first | exact trivial | exact rfl | exact M | exact C3 | exact C2 | exact notFix _ (by omega) | exact Le.refl _ | exact RowLe.refl _ | with_reducible apply And.intro)
theorem readU209N (x1 x2 : UInt8) (h0 : x1.toNat < 128) : GetsN 70 (.tup [uL (((x1.toNat) * 256 + x2.toNat : Nat) : Int), nI]) [209, x1, x2] := fun T z g t hT hT2 hz hg => by
  obtain ⟨o2, r2, l2, p2, bf2, S2, C2⟩ := peekN T z g 209 (x1 :: x2 :: t) hT hT2 hz hg
  obtain ⟨o3, r3, l3, p3, bf3, S3, hb, hlen, C3⟩ := nextO (a := [209, x1, x2]) (t := t) S2 3 rfl
  refine ⟨o3, r3, l3, p3 + 3, bf3, S3, ?_⟩
  have b1 : bf3.getD (p3 + 1) 0 = x1 := byte_at hb 1 (by simp) rfl
  have h1 := x1.toNat_lt
  have b2 : bf3.getD (p3 + 2) 0 = x2 := byte_at hb 2 (by simp) rfl
  have h2 := x2.toNat_lt
  have M := getM107 bf3 p3 (by omega)
  have w0 : IntKind.i16.wrap (((x1.toNat) * 256 + x2.toNat : Nat) : Int) = (((x1.toNat) * 256 + x2.toNat : Nat) : Int) := by simp only [IntKind.wrap, IntKind.bits, IntKind.signed]; simp; omega
  rw [b1, b2, m107_eq, w0] at M
  have w : IntKind.u64.wrap (((x1.toNat) * 256 + x2.toNat : Nat) : Int) = (((x1.toNat) * 256 + x2.toNat : Nat) : Int) := by rw [wrapU64]; omega
  have w2 : IntKind.i64.wrap (((x1.toNat) * 256 + x2.toNat : Nat) : Int) = (((x1.toNat) * 256 + x2.toNat : Nat) : Int) := wrap64 (by omega) (by omega)
  have d0 : decide ((((x1.toNat) * 256 + x2.toNat : Nat) : Int) < 0) = false := decide_eq_false (by omega)
  refine (ruN209 z g 0 ([209, x1, x2] ++ t).length o2 r2 l2 p2 o3 r3 l3 p3 (p3 + 3) bf2 bf3 ([209, x1, x2] ++ t) (((x1.toNat) * 256 + x2.toNat : Nat) : Int) ?_).cast rfl rfl (by rw [w2, w]) rfl
  simp only [AllP, leAll, w2, d0]
  repeat' (first | exact trivial | exact rfl | exact M | exact C3 | exact C2 | exact notFix _ (by omega) | exact Le.refl _ | exact RowLe.refl _ | with_reducible apply And.intro)
theorem readU210N (x1 x2 x3 x4 : UInt8) (h0 : x1.toNat < 128) : GetsN 70 (.tup [uL (((((x1.toNat) * 256 + x2.toNat) * 256 + x3.toNat) * 256 + x4.toNat : Nat) : Int), nI]) [210, x1, x2, x3, x4] := fun T z g t hT hT2 hz hg => by
  obtain ⟨o2, r2, l2, p2, bf2, S2, C2⟩ := peekN T z g 210 (x1 :: x2 :: x3 :: x4 :: t) hT hT2 hz hg
  obtain ⟨o3, r3, l3, p3, bf3, S3, hb, hlen, C3⟩ := nextO (a := [210, x1, x2, x3, x4]) (t := t) S2 5 rfl
  refine ⟨o3, r3, l3, p3 + 5, bf3, S3, ?_⟩
  have b1 : bf3.getD (p3 + 1) 0 = x1 := byte_at hb 1 (by simp) rfl
  have h1 := x1.toNat_lt
  have b2 : bf3.getD (p3 + 2) 0 = x2 := byte_at hb 2 (by simp) rfl
  have h2 := x2.toNat_lt
  have b3 : bf3.getD (p3 + 3) 0 = x3 := byte_at hb 3 (by simp) rfl
  have h3 := x3.toNat_lt
  have b4 : bf3.getD (p3 + 4) 0 = x4 := byte_at hb 4 (by simp) rfl
  have h4 := x4.toNat_lt
  have M := getM109 bf3 p3 (by omega)
  have w0 : IntKind.i32.wrap (((((x1.toNat) * 256 + x2.toNat) * 256 + x3.toNat) * 256 + x4.toNat : Nat) : Int) = (((((x1.toNat) * 256 + x2.toNat) * 256 + x3.toNat) * 256 + x4.toNat : Nat) : Int) := by simp only [IntKind.wrap, IntKind.bits, IntKind.signed]; simp; omega
  rw [b1, b2, b3, b4, m109_eq, w0] at M
  have w : IntKind.u64.wrap (((((x1.toNat) * 256 + x2.toNat) * 256 + x3.toNat) * 256 + x4.toNat : Nat) : Int) = (((((x1.toNat) * 256 + x2.toNat) * 256 + x3.toNat) * 256 + x4.toNat : Nat) : Int) := by rw [wrapU64]; omega
  have w2 : IntKind.i64.wrap (((((x1.toNat) * 256 + x2.toNat) * 256 + x3.toNat) * 256 + x4.toNat : Nat) : Int) = (((((x1.toNat) * 256 + x2.toNat) * 256 + x3.toNat) * 256 + x4.toNat : Nat) : Int) := wrap64 (by omega) (by omega)
  have d0 : decide ((((((x1.toNat) * 256 + x2.toNat) * 256 + x3.toNat) * 256 + x4.toNat : Nat) : Int) < 0) = false := decide_eq_false (by omega)
  refine (ruN210 z g 0 ([210, x1, x2, x3, x4] ++ t).length o2 r2 l2 p2 o3 r3 l3 p3 (p3 + 5) bf2 bf3 ([210, x1, x2, x3, x4] ++ t) (((((x1.toNat) * 256 + x2.toNat) * 256 + x3.toNat) * 256 + x4.toNat : Nat) : Int) ?_).cast rfl rfl (by rw [w2, w]) rfl
  simp only [AllP, leAll, w2, d0]
  repeat' (first | exact trivial | exact rfl | exact M | exact C3 | exact C2 | exact notFix _ (by omega) | exact Le.refl _ | exact RowLe.refl _ | with_reducible apply And.intro)
theorem readU211N (x1 x2 x3 x4 x5 x6 x7 x8 : UInt8) (h0 : x1.toNat < 128) : GetsN 70 (.tup [uL (((((((((x1.toNat) * 256 + x2.toNat) * 256 + x3.toNat) * 256 + x4.toNat) * 256 + x5.toNat) * 256 + x6.toNat) * 256 + x7.toNat) * 256 + x8.toNat : Nat) : Int), nI]) [211, x1, x2, x3, x4, x5, x6, x7, x8] := fun T z g t hT hT2 hz hg => by
  obtain ⟨o2, r2, l2, p2, bf2, S2, C2⟩ := peekN T z g 211 (x1 :: x2 :: x3 :: x4 :: x5 :: x6 :: x7 :: x8 :: t) hT hT2 hz hg
  obtain ⟨o3, r3, l3, p3, bf3, S3, hb, hlen, C3⟩ := nextO (a := [211, x1, x2, x3, x4, x5, x6, x7, x8]) (t := t) S2 9 rfl
  refine ⟨o3, r3, l3, p3 + 9, bf3, S3, ?_⟩
  have b1 : bf3.getD (p3 + 1) 0 = x1 := byte_at hb 1 (by simp) rfl
  have h1 := x1.toNat_lt
  have b2 : bf3.getD (p3 + 2) 0 = x2 := byte_at hb 2 (by simp) rfl
  have h2 := x2.toNat_lt
  have b3 : bf3.getD (p3 + 3) 0 = x3 := byte_at hb 3 (by simp) rfl
  have h3 := x3.toNat_lt
  have b4 : bf3.getD (p3 + 4) 0 = x4 := byte_at hb 4 (by simp) rfl
  have h4 := x4.toNat_lt
  have b5 : bf3.getD (p3 + 5) 0 = x5 := byte_at hb 5 (by simp) rfl
  have h5 := x5.toNat_lt
  have b6 : bf3.getD (p3 + 6) 0 = x6 := byte_at hb 6 (by simp) rfl
  have h6 := x6.toNat_lt
  have b7 : bf3.getD (p3 + 7) 0 = x7 := byte_at hb 7 (by simp) rfl
  have h7 := x7.toNat_lt
  have b8 : bf3.getD (p3 + 8) 0 = x8 := byte_at hb 8 (by simp) rfl
  have h8 := x8.toNat_lt
  have M := getM111 bf3 p3 (by omega)
  have w0 : IntKind.i64.wrap (((((((((x1.toNat) * 256 + x2.toNat) * 256 + x3.toNat) * 256 + x4.toNat) * 256 + x5.toNat) * 256 + x6.toNat) * 256 + x7.toNat) * 256 + x8.toNat : Nat) : Int) = (((((((((x1.toNat) * 256 + x2.toNat) * 256 + x3.toNat) * 256 + x4.toNat) * 256 + x5.toNat) * 256 + x6.toNat) * 256 + x7.toNat) * 256 + x8.toNat : Nat) : Int) := by simp only [IntKind.wrap, IntKind.bits, IntKind.signed]; simp; omega
  rw [b1, b2, b3, b4, b5, b6, b7, b8, m111_eq, w0] at M
  have w : IntKind.u64.wrap (((((((((x1.toNat) * 256 + x2.toNat) * 256 + x3.toNat) * 256 + x4.toNat) * 256 + x5.toNat) * 256 + x6.toNat) * 256 + x7.toNat) * 256 + x8.toNat : Nat) : Int) = (((((((((x1.toNat) * 256 + x2.toNat) * 256 + x3.toNat) * 256 + x4.toNat) * 256 + x5.toNat) * 256 + x6.toNat) * 256 + x7.toNat) * 256 + x8.toNat : Nat) : Int) := by rw [wrapU64]; omega
  have w2 : IntKind.i64.wrap (((((((((x1.toNat) * 256 + x2.toNat) * 256 + x3.toNat) * 256 + x4.toNat) * 256 + x5.toNat) * 256 + x6.toNat) * 256 + x7.toNat) * 256 + x8.toNat : Nat) : Int) = (((((((((x1.toNat) * 256 + x2.toNat) * 256 + x3.toNat) * 256 + x4.toNat) * 256 + x5.toNat) * 256 + x6.toNat) * 256 + x7.toNat) * 256 + x8.toNat : Nat) : Int) := wrap64 (by omega) (by omega)
  have d0 : decide ((((((((((x1.toNat) * 256 + x2.toNat) * 256 + x3.toNat) * 256 + x4.toNat) * 256 + x5.toNat) * 256 + x6.toNat) * 256 + x7.toNat) * 256 + x8.toNat : Nat) : Int) < 0) = false := decide_eq_false (by omega)
  refine (ruN211 z g 0 ([211, x1, x2, x3, x4, x5, x6, x7, x8] ++ t).length o2 r2 l2 p2 o3 r3 l3 p3 (p3 + 9) bf2 bf3 ([211, x1, x2, x3, x4, x5, x6, x7, x8] ++ t) (((((((((x1.toNat) * 256 + x2.toNat) * 256 + x3.toNat) * 256 + x4.toNat) * 256 + x5.toNat) * 256 + x6.toNat) * 256 + x7.toNat) * 256 + x8.toNat : Nat) : Int) ?_).cast rfl rfl (by rw [w]) rfl
  simp only [AllP, leAll, w2, d0]
  repeat' (first | exact trivial | exact rfl | exact M | exact C3 | exact C2 | exact notFix _ (by omega) | exact Le.refl _ | exact RowLe.refl _ | with_reducible apply And.intro)
end Go.Ax
