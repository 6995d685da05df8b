/-
  What a Reader over a stream reads: numbers with a sign, form by form.
-/
import Derived.Test.YtkbmfpkbegjhcaaDoorSmG
import Derived.Test.YtkbmfpkbegjhcaaDoorSiA
set_option linter.unusedVariables false
set_option linter.unusedSimpArgs false
set_option maxRecDepth 100000
namespace Go.Ax
open Go.Proofs
theorem i64of (k : IntKind) (hk : k = .i8 ∨ k = .i16 ∨ k = .i32 ∨ k = .i64) (v : Int) : IntKind.i64.wrap (k.wrap v) = k.wrap v := by
  rcases hk with rfl | rfl | rfl | rfl <;> (simp only [IntKind.wrap, IntKind.bits, IntKind.signed]; simp; try omega)
theorem negT : ∀ n : Fin 256, (IntKind.u8.wrap ((BitVec.ofInt IntKind.u8.bits (n.val : Int) &&& BitVec.ofInt IntKind.u8.bits (224 : Int)).toNat : Int) == (224 : Int)) = decide (224 ≤ n.val) := by decide
theorem is103 (b : UInt8) : A0 103 [.lit (.int .u8 (b.toNat : Int))] [] (bL (decide (224 ≤ b.toNat))) [] :=
  (q103 b.toNat trivial).cast rfl rfl (by rw [← negT ⟨b.toNat, b.toNat_lt⟩]) rfl
theorem notNeg (v : Int) (h : 0 ≤ v ∧ v < 224) : A0 103 [.lit (.int .u8 v)] [] (bL false) [] := by
  obtain ⟨n, rfl⟩ := Int.eq_ofNat_of_zero_le h.1
  have q := is103 (UInt8.ofNat n)
  have e : (UInt8.ofNat n).toNat = n := by rw [UInt8.toNat_ofNat']; omega
  rw [e, decide_eq_false (by omega)] at q
  exact q
theorem isNeg (b : UInt8) (h : 224 ≤ b.toNat) : A0 103 [u8 b] [] (bL true) [] := by
  have q := is103 b
  rw [decide_eq_true h] at q
  exact q
theorem Gets.eqI {f : FuncId} {v w : Int} {a : List UInt8} (h : Gets f (.tup [iL v, nI]) a) (e : v = w) : Gets f (.tup [iL w, nI]) a := e ▸ h
theorem readIfixO (b : UInt8) (h : b.toNat < 128) : GetsO 67 (.tup [iL b.toNat, nI]) [b] := fun T z g o r l p bf dat t S => by
  obtain ⟨o2, r2, l2, p2, bf2, S2, C2⟩ := peekO (b := b) (t := t) S
  obtain ⟨o3, r3, l3, p3, bf3, S3, C3⟩ := skipO (a := [b]) (t := t) S2 1 rfl
  refine ⟨o3, r3, l3, p3, bf3, S3, ?_⟩
  have w : IntKind.i64.wrap (b.toNat : Int) = b.toNat := wrap64 (by omega) (by omega)
  have M := isFix b h
  have N := q102 b.toNat trivial
  refine (riOfix z g o r l p o2 r2 l2 p2 o3 r3 l3 0 p3 bf bf2 bf3 dat b ?_).cast rfl rfl (by rw [w]) rfl
  simp only [AllP, leAll]
  repeat' (first | exact trivial | exact rfl | exact M | exact C3 | exact C2 | exact N | exact notFix _ (by omega) | exact notNeg _ (by omega) | exact Le.refl _ | exact RowLe.refl _ | with_reducible apply And.intro)
theorem readInegO (b : UInt8) (h : 224 ≤ b.toNat) : GetsO 67 (.tup [iL (IntKind.i8.wrap b.toNat), nI]) [b] := fun T z g o r l p bf dat t S => by
  obtain ⟨o2, r2, l2, p2, bf2, S2, C2⟩ := peekO (b := b) (t := t) S
  obtain ⟨o3, r3, l3, p3, bf3, S3, C3⟩ := skipO (a := [b]) (t := t) S2 1 rfl
  refine ⟨o3, r3, l3, p3, bf3, S3, ?_⟩
  have w := i64of .i8 (by decide) (b.toNat : Int)
  have M := isNeg b h
  have N := q104 b.toNat trivial
  have hb := b.toNat_lt
  have M2 := notFix (b.toNat : Int) (by omega)
  refine (riOneg z g o r l p o2 r2 l2 p2 o3 r3 l3 0 p3 bf bf2 bf3 dat b (IntKind.i8.wrap b.toNat) ?_).cast rfl rfl (by rw [w]) rfl
  simp only [AllP, leAll]
  repeat' (first | exact trivial | exact rfl | exact M | exact C3 | exact C2 | exact N | exact M2 | exact notFix _ (by omega) | exact notNeg _ (by omega) | exact Le.refl _ | exact RowLe.refl _ | with_reducible apply And.intro)
theorem readI204O (x1 : UInt8) : GetsO 67 (.tup [iL ((x1.toNat : Nat) : Int), nI]) [204, x1] := fun T z g o r l p bf dat t S => by
  obtain ⟨o2, r2, l2, p2, bf2, S2, C2⟩ := peekO (b := 204) (t := x1 :: t) S
  obtain ⟨o3, r3, l3, p3, bf3, S3, hb, hlen, C3⟩ := nextO (a := [204, x1]) (t := t) S2 2 rfl
  refine ⟨o3, r3, l3, p3 + 2, bf3, S3, ?_⟩
  have b1 : bf3.getD (p3 + 1) 0 = x1 := byte_at hb 1 (by simp) rfl
  have h1 := x1.toNat_lt
  have M := g106 bf3 p3 (by simp only [AllP]; exact ⟨by omega, trivial⟩)
  rw [b1] at M
  have w : IntKind.i64.wrap ((x1.toNat : Nat) : Int) = ((x1.toNat : Nat) : Int) := wrap64 (by omega) (by omega)
  have N := trivial
  refine (riO204 z g o r l p o2 r2 l2 p2 o3 r3 l3 p3 (p3 + 2) bf bf2 bf3 dat ((x1.toNat : Nat) : Int) ?_).cast rfl rfl (by rw [w]) rfl
  simp only [AllP, leAll]
  repeat' (first | exact trivial | exact rfl | exact M | exact C3 | exact C2 | exact N | exact notFix _ (by omega) | exact notNeg _ (by omega) | exact Le.refl _ | exact RowLe.refl _ | with_reducible apply And.intro)
theorem readI205O (x1 x2 : UInt8) : GetsO 67 (.tup [iL (((x1.toNat) * 256 + x2.toNat : Nat) : Int), nI]) [205, x1, x2] := fun T z g o r l p bf dat t S => by
  obtain ⟨o2, r2, l2, p2, bf2, S2, C2⟩ := peekO (b := 205) (t := x1 :: x2 :: t) S
  obtain ⟨o3, r3, l3, p3, bf3, S3, hb, hlen, C3⟩ := nextO (a := [205, x1, x2]) (t := t) S2 3 rfl
  refine ⟨o3, r3, l3, p3 + 3, bf3, S3, ?_⟩
  have b1 : bf3.getD (p3 + 1) 0 = x1 := byte_at hb 1 (by simp) rfl
  have h1 := x1.toNat_lt
  have b2 : bf3.getD (p3 + 2) 0 = x2 := byte_at hb 2 (by simp) rfl
  have h2 := x2.toNat_lt
  have M := getM108 bf3 p3 (by omega)
  rw [b1, b2, m108_eq] at M
  have w0 : IntKind.u16.wrap (((x1.toNat) * 256 + x2.toNat : Nat) : Int) = (((x1.toNat) * 256 + x2.toNat : Nat) : Int) := by simp only [IntKind.wrap, IntKind.bits, IntKind.signed]; simp; omega
  rw [w0] at M
  have w : IntKind.i64.wrap (((x1.toNat) * 256 + x2.toNat : Nat) : Int) = (((x1.toNat) * 256 + x2.toNat : Nat) : Int) := wrap64 (by omega) (by omega)
  have N := trivial
  refine (riO205 z g o r l p o2 r2 l2 p2 o3 r3 l3 p3 (p3 + 3) bf bf2 bf3 dat (((x1.toNat) * 256 + x2.toNat : Nat) : Int) ?_).cast rfl rfl (by rw [w]) rfl
  simp only [AllP, leAll]
  repeat' (first | exact trivial | exact rfl | exact M | exact C3 | exact C2 | exact N | exact notFix _ (by omega) | exact notNeg _ (by omega) | exact Le.refl _ | exact RowLe.refl _ | with_reducible apply And.intro)
theorem readI206O (x1 x2 x3 x4 : UInt8) : GetsO 67 (.tup [iL (((((x1.toNat) * 256 + x2.toNat) * 256 + x3.toNat) * 256 + x4.toNat : Nat) : Int), nI]) [206, x1, x2, x3, x4] := fun T z g o r l p bf dat t S => by
  obtain ⟨o2, r2, l2, p2, bf2, S2, C2⟩ := peekO (b := 206) (t := x1 :: x2 :: x3 :: x4 :: t) S
  obtain ⟨o3, r3, l3, p3, bf3, S3, hb, hlen, C3⟩ := nextO (a := [206, x1, x2, x3, x4]) (t := t) S2 5 rfl
  refine ⟨o3, r3, l3, p3 + 5, bf3, S3, ?_⟩
  have b1 : bf3.getD (p3 + 1) 0 = x1 := byte_at hb 1 (by simp) rfl
  have h1 := x1.toNat_lt
  have b2 : bf3.getD (p3 + 2) 0 = x2 := byte_at hb 2 (by simp) rfl
  have h2 := x2.toNat_lt
  have b3 : bf3.getD (p3 + 3) 0 = x3 := byte_at hb 3 (by simp) rfl
  have h3 := x3.toNat_lt
  have b4 : bf3.getD (p3 + 4) 0 = x4 := byte_at hb 4 (by simp) rfl
  have h4 := x4.toNat_lt
  have M := getM110 bf3 p3 (by omega)
  rw [b1, b2, b3, b4, m110_eq] at M
  have w0 : IntKind.u32.wrap (((((x1.toNat) * 256 + x2.toNat) * 256 + x3.toNat) * 256 + x4.toNat : Nat) : Int) = (((((x1.toNat) * 256 + x2.toNat) * 256 + x3.toNat) * 256 + x4.toNat : Nat) : Int) := by simp only [IntKind.wrap, IntKind.bits, IntKind.signed]; simp; omega
  rw [w0] at M
  have w : IntKind.i64.wrap (((((x1.toNat) * 256 + x2.toNat) * 256 + x3.toNat) * 256 + x4.toNat : Nat) : Int) = (((((x1.toNat) * 256 + x2.toNat) * 256 + x3.toNat) * 256 + x4.toNat : Nat) : Int) := wrap64 (by omega) (by omega)
  have N := trivial
  refine (riO206 z g o r l p o2 r2 l2 p2 o3 r3 l3 p3 (p3 + 5) bf bf2 bf3 dat (((((x1.toNat) * 256 + x2.toNat) * 256 + x3.toNat) * 256 + x4.toNat : Nat) : Int) ?_).cast rfl rfl (by rw [w]) rfl
  simp only [AllP, leAll]
  repeat' (first | exact trivial | exact rfl | exact M | exact C3 | exact C2 | exact N | exact notFix _ (by omega) | exact notNeg _ (by omega) | exact Le.refl _ | exact RowLe.refl _ | with_reducible apply And.intro)
theorem readI207O (x1 x2 x3 x4 x5 x6 x7 x8 : UInt8) (h0 : x1.toNat < 128) : GetsO 67 (.tup [iL (((((((((x1.toNat) * 256 + x2.toNat) * 256 + x3.toNat) * 256 + x4.toNat) * 256 + x5.toNat) * 256 + x6.toNat) * 256 + x7.toNat) * 256 + x8.toNat : Nat) : Int), nI]) [207, x1, x2, x3, x4, x5, x6, x7, x8] := fun T z g o r l p bf dat t S => by
  obtain ⟨o2, r2, l2, p2, bf2, S2, C2⟩ := peekO (b := 207) (t := x1 :: x2 :: x3 :: x4 :: x5 :: x6 :: x7 :: x8 :: t) S
  obtain ⟨o3, r3, l3, p3, bf3, S3, hb, hlen, C3⟩ := nextO (a := [207, x1, x2, x3, x4, x5, x6, x7, x8]) (t := t) S2 9 rfl
  refine ⟨o3, r3, l3, p3 + 9, bf3, S3, ?_⟩
  have b1 : bf3.getD (p3 + 1) 0 = x1 := byte_at hb 1 (by simp) rfl
  have h1 := x1.toNat_lt
  have b2 : bf3.getD (p3 + 2) 0 = x2 := byte_at hb 2 (by simp) rfl
  have h2 := x2.toNat_lt
  have b3 : bf3.getD (p3 + 3) 0 = x3 := byte_at hb 3 (by simp) rfl
  have h3 := x3.toNat_lt
  have b4 : bf3.getD (p3 + 4) 0 = x4 := byte_at hb 4 (by simp) rfl
  have h4 := x4.toNat_lt
  have b5 : bf3.getD (p3 + 5) 0 = x5 := byte_at hb 5 (by simp) rfl
  have h5 := x5.toNat_lt
  have b6 : bf3.getD (p3 + 6) 0 = x6 := byte_at hb 6 (by simp) rfl
  have h6 := x6.toNat_lt
  have b7 : bf3.getD (p3 + 7) 0 = x7 := byte_at hb 7 (by simp) rfl
  have h7 := x7.toNat_lt
  have b8 : bf3.getD (p3 + 8) 0 = x8 := byte_at hb 8 (by simp) rfl
  have h8 := x8.toNat_lt
  have M := getM112 bf3 p3 (by omega)
  rw [b1, b2, b3, b4, b5, b6, b7, b8, m112_eq] at M
  have w0 : IntKind.u64.wrap (((((((((x1.toNat) * 256 + x2.toNat) * 256 + x3.toNat) * 256 + x4.toNat) * 256 + x5.toNat) * 256 + x6.toNat) * 256 + x7.toNat) * 256 + x8.toNat : Nat) : Int) = (((((((((x1.toNat) * 256 + x2.toNat) * 256 + x3.toNat) * 256 + x4.toNat) * 256 + x5.toNat) * 256 + x6.toNat) * 256 + x7.toNat) * 256 + x8.toNat : Nat) : Int) := by simp only [IntKind.wrap, IntKind.bits, IntKind.signed]; simp; omega
  rw [w0] at M
  have w : IntKind.i64.wrap (((((((((x1.toNat) * 256 + x2.toNat) * 256 + x3.toNat) * 256 + x4.toNat) * 256 + x5.toNat) * 256 + x6.toNat) * 256 + x7.toNat) * 256 + x8.toNat : Nat) : Int) = (((((((((x1.toNat) * 256 + x2.toNat) * 256 + x3.toNat) * 256 + x4.toNat) * 256 + x5.toNat) * 256 + x6.toNat) * 256 + x7.toNat) * 256 + x8.toNat : Nat) : Int) := wrap64 (by omega) (by omega)
  have N : decide ((((((((((x1.toNat) * 256 + x2.toNat) * 256 + x3.toNat) * 256 + x4.toNat) * 256 + x5.toNat) * 256 + x6.toNat) * 256 + x7.toNat) * 256 + x8.toNat : Nat) : Int) > 9223372036854775807) = false := decide_eq_false (by omega)
  refine (riO207 z g o r l p o2 r2 l2 p2 o3 r3 l3 p3 (p3 + 9) bf bf2 bf3 dat (((((((((x1.toNat) * 256 + x2.toNat) * 256 + x3.toNat) * 256 + x4.toNat) * 256 + x5.toNat) * 256 + x6.toNat) * 256 + x7.toNat) * 256 + x8.toNat : Nat) : Int) ?_).cast rfl rfl (by rw [w]) rfl
  simp only [AllP, leAll]
  repeat' (first | exact trivial | exact rfl | exact M | exact C3 | exact C2 | exact N | exact notFix _ (by omega) | exact notNeg _ (by omega) | exact Le.refl _ | exact RowLe.refl _ | with_reducible apply And.intro)
theorem readI208O (x1 : UInt8) : GetsO 67 (.tup [iL (IntKind.i8.wrap ((x1.toNat : Nat) : Int)), nI]) [208, x1] := fun T z g o r l p bf dat t S => by
  obtain ⟨o2, r2, l2, p2, bf2, S2, C2⟩ := peekO (b := 208) (t := x1 :: t) S
  obtain ⟨o3, r3, l3, p3, bf3, S3, hb, hlen, C3⟩ := nextO (a := [208, x1]) (t := t) S2 2 rfl
  refine ⟨o3, r3, l3, p3 + 2, bf3, S3, ?_⟩
  have b1 : bf3.getD (p3 + 1) 0 = x1 := byte_at hb 1 (by simp) rfl
  have h1 := x1.toNat_lt
  have M := g105 bf3 p3 (by simp only [AllP]; exact ⟨by omega, trivial⟩)
  rw [b1] at M
  have w := i64of .i8 (by decide) ((x1.toNat : Nat) : Int)
  have N := trivial
  refine (riO208 z g o r l p o2 r2 l2 p2 o3 r3 l3 p3 (p3 + 2) bf bf2 bf3 dat (IntKind.i8.wrap ((x1.toNat : Nat) : Int)) ?_).cast rfl rfl (by rw [w]) rfl
  simp only [AllP, leAll]
  repeat' (first | exact trivial | exact rfl | exact M | exact C3 | exact C2 | exact N | exact notFix _ (by omega) | exact notNeg _ (by omega) | exact Le.refl _ | exact RowLe.refl _ | with_reducible apply And.intro)
theorem readI209O (x1 x2 : UInt8) : GetsO 67 (.tup [iL (IntKind.i16.wrap (((x1.toNat) * 256 + x2.toNat : Nat) : Int)), nI]) [209, x1, x2] := fun T z g o r l p bf dat t S => by
  obtain ⟨o2, r2, l2, p2, bf2, S2, C2⟩ := peekO (b := 209) (t := x1 :: x2 :: t) S
  obtain ⟨o3, r3, l3, p3, bf3, S3, hb, hlen, C3⟩ := nextO (a := [209, x1, x2]) (t := t) S2 3 rfl
  refine ⟨o3, r3, l3, p3 + 3, bf3, S3, ?_⟩
  have b1 : bf3.getD (p3 + 1) 0 = x1 := byte_at hb 1 (by simp) rfl
  have h1 := x1.toNat_lt
  have b2 : bf3.getD (p3 + 2) 0 = x2 := byte_at hb 2 (by simp) rfl
  have h2 := x2.toNat_lt
  have M := getM107 bf3 p3 (by omega)
  rw [b1, b2, m107_eq] at M
  have w := i64of .i16 (by decide) (((x1.toNat) * 256 + x2.toNat : Nat) : Int)
  have N := trivial
  refine (riO209 z g o r l p o2 r2 l2 p2 o3 r3 l3 p3 (p3 + 3) bf bf2 bf3 dat (IntKind.i16.wrap (((x1.toNat) * 256 + x2.toNat : Nat) : Int)) ?_).cast rfl rfl (by rw [w]) rfl
  simp only [AllP, leAll]
  repeat' (first | exact trivial | exact rfl | exact M | exact C3 | exact C2 | exact N | exact notFix _ (by omega) | exact notNeg _ (by omega) | exact Le.refl _ | exact RowLe.refl _ | with_reducible apply And.intro)
theorem readI210O (x1 x2 x3 x4 : UInt8) : GetsO 67 (.tup [iL (IntKind.i32.wrap (((((x1.toNat) * 256 + x2.toNat) * 256 + x3.toNat) * 256 + x4.toNat : Nat) : Int)), nI]) [210, x1, x2, x3, x4] := fun T z g o r l p bf dat t S => by
  obtain ⟨o2, r2, l2, p2, bf2, S2, C2⟩ := peekO (b := 210) (t := x1 :: x2 :: x3 :: x4 :: t) S
  obtain ⟨o3, r3, l3, p3, bf3, S3, hb, hlen, C3⟩ := nextO (a := [210, x1, x2, x3, x4]) (t := t) S2 5 rfl
  refine ⟨o3, r3, l3, p3 + 5, bf3, S3, ?_⟩
  have b1 : bf3.getD (p3 + 1) 0 = x1 := byte_at hb 1 (by simp) rfl
  have h1 := x1.toNat_lt
  have b2 : bf3.getD (p3 + 2) 0 = x2 := byte_at hb 2 (by simp) rfl
  have h2 := x2.toNat_lt
  have b3 : bf3.getD (p3 + 3) 0 = x3 := byte_at hb 3 (by simp) rfl
  have h3 := x3.toNat_lt
  have b4 : bf3.getD (p3 + 4) 0 = x4 := byte_at hb 4 (by simp) rfl
  have h4 := x4.toNat_lt
  have M := getM109 bf3 p3 (by omega)
  rw [b1, b2, b3, b4, m109_eq] at M
  have w := i64of .i32 (by decide) (((((x1.toNat) * 256 + x2.toNat) * 256 + x3.toNat) * 256 + x4.toNat : Nat) : Int)
  have N := trivial
  refine (riO210 z g o r l p o2 r2 l2 p2 o3 r3 l3 p3 (p3 + 5) bf bf2 bf3 dat (IntKind.i32.wrap (((((x1.toNat) * 256 + x2.toNat) * 256 + x3.toNat) * 256 + x4.toNat : Nat) : Int)) ?_).cast rfl rfl (by rw [w]) rfl
  simp only [AllP, leAll]
  repeat' (first | exact trivial | exact rfl | exact M | exact C3 | exact C2 | exact N | exact notFix _ (by omega) | exact notNeg _ (by omega) | exact Le.refl _ | exact RowLe.refl _ | with_reducible apply And.intro)
theorem readI211O (x1 x2 x3 x4 x5 x6 x7 x8 : UInt8) : GetsO 67 (.tup [iL (IntKind.i64.wrap (((((((((x1.toNat) * 256 + x2.toNat) * 256 + x3.toNat) * 256 + x4.toNat) * 256 + x5.toNat) * 256 + x6.toNat) * 256 + x7.toNat) * 256 + x8.toNat : Nat) : Int)), nI]) [211, x1, x2, x3, x4, x5, x6, x7, x8] := fun T z g o r l p bf dat t S => by
  obtain ⟨o2, r2, l2, p2, bf2, S2, C2⟩ := peekO (b := 211) (t := x1 :: x2 :: x3 :: x4 :: x5 :: x6 :: x7 :: x8 :: t) S
  obtain ⟨o3, r3, l3, p3, bf3, S3, hb, hlen, C3⟩ := nextO (a := [211, x1, x2, x3, x4, x5, x6, x7, x8]) (t := t) S2 9 rfl
  refine ⟨o3, r3, l3, p3 + 9, bf3, S3, ?_⟩
  have b1 : bf3.getD (p3 + 1) 0 = x1 := byte_at hb 1 (by simp) rfl
  have h1 := x1.toNat_lt
  have b2 : bf3.getD (p3 + 2) 0 = x2 := byte_at hb 2 (by simp) rfl
  have h2 := x2.toNat_lt
  have b3 : bf3.getD (p3 + 3) 0 = x3 := byte_at hb 3 (by simp) rfl
  have h3 := x3.toNat_lt
  have b4 : bf3.getD (p3 + 4) 0 = x4 := byte_at hb 4 (by simp) rfl
  have h4 := x4.toNat_lt
  have b5 : bf3.getD (p3 + 5) 0 = x5 := byte_at hb 5 (by simp) rfl
  have h5 := x5.toNat_lt
  have b6 : bf3.getD (p3 + 6) 0 = x6 := byte_at hb 6 (by simp) rfl
  have h6 := x6.toNat_lt
  have b7 : bf3.getD (p3 + 7) 0 = x7 := byte_at hb 7 (by simp) rfl
  have h7 := x7.toNat_lt
  have b8 : bf3.getD (p3 + 8) 0 = x8 := byte_at hb 8 (by simp) rfl
  have h8 := x8.toNat_lt
  have M := getM111 bf3 p3 (by omega)
  rw [b1, b2, b3, b4, b5, b6, b7, b8, m111_eq] at M
  have w := i64of .i64 (by decide) (((((((((x1.toNat) * 256 + x2.toNat) * 256 + x3.toNat) * 256 + x4.toNat) * 256 + x5.toNat) * 256 + x6.toNat) * 256 + x7.toNat) * 256 + x8.toNat : Nat) : Int)
  have N := trivial
  refine (riO211 z g o r l p o2 r2 l2 p2 o3 r3 l3 p3 (p3 + 9) bf bf2 bf3 dat (IntKind.i64.wrap (((((((((x1.toNat) * 256 + x2.toNat) * 256 + x3.toNat) * 256 + x4.toNat) * 256 + x5.toNat) * 256 + x6.toNat) * 256 + x7.toNat) * 256 + x8.toNat : Nat) : Int)) ?_).cast rfl rfl rfl rfl
  simp only [AllP, leAll]
  repeat' (first | exact trivial | exact rfl | exact M | exact C3 | exact C2 | exact N | exact notFix _ (by omega) | exact notNeg _ (by omega) | exact Le.refl _ | exact RowLe.refl _ | with_reducible apply And.intro)
theorem GetsO.takerI {v : Int} {a : List UInt8} (h : GetsO 67 (.tup [iL v, nI]) a) : GetsO 66 (.tup [iL v, nI]) a := fun T z g o r l p bf dat t S => by
  obtain ⟨o2, r2, l2, p2, bf2, S2, C⟩ := h T z g o r l p bf dat t S
  refine ⟨o2, r2, l2, p2, bf2, S2, rd66O z g o r l p o2 r2 l2 p2 bf bf2 dat v ?_⟩
  simp only [AllP, leAll]
  repeat' (first | exact trivial | exact rfl | exact C | exact Le.refl _ | exact RowLe.refl _ | with_reducible apply And.intro)
theorem readIfixN (b : UInt8) (h : b.toNat < 128) : GetsN 67 (.tup [iL b.toNat, nI]) [b] := fun T z g t hT hT2 hz hg => by
  obtain ⟨o2, r2, l2, p2, bf2, S2, C2⟩ := peekN T z g b (t) hT hT2 hz hg
  obtain ⟨o3, r3, l3, p3, bf3, S3, C3⟩ := skipO (a := [b]) (t := t) S2 1 rfl
  refine ⟨o3, r3, l3, p3, bf3, S3, ?_⟩
  have w : IntKind.i64.wrap (b.toNat : Int) = b.toNat := wrap64 (by omega) (by omega)
  have M := isFix b h
  have N := q102 b.toNat trivial
  refine (riNfix z g 0 ([b] ++ t).length o2 r2 l2 p2 o3 r3 l3 0 p3 bf2 bf3 ([b] ++ t) b ?_).cast rfl rfl (by rw [w]) rfl
  simp only [AllP, leAll]
  repeat' (first | exact trivial | exact rfl | exact M | exact C3 | exact C2 | exact N | exact notFix _ (by omega) | exact notNeg _ (by omega) | exact Le.refl _ | exact RowLe.refl _ | with_reducible apply And.intro)
theorem readInegN (b : UInt8) (h : 224 ≤ b.toNat) : GetsN 67 (.tup [iL (IntKind.i8.wrap b.toNat), nI]) [b] := fun T z g t hT hT2 hz hg => by
  obtain ⟨o2, r2, l2, p2, bf2, S2, C2⟩ := peekN T z g b (t) hT hT2 hz hg
  obtain ⟨o3, r3, l3, p3, bf3, S3, C3⟩ := skipO (a := [b]) (t := t) S2 1 rfl
  refine ⟨o3, r3, l3, p3, bf3, S3, ?_⟩
  have w := i64of .i8 (by decide) (b.toNat : Int)
  have M := isNeg b h
  have N := q104 b.toNat trivial
  have hb := b.toNat_lt
  have M2 := notFix (b.toNat : Int) (by omega)
  refine (riNneg z g 0 ([b] ++ t).length o2 r2 l2 p2 o3 r3 l3 0 p3 bf2 bf3 ([b] ++ t) b (IntKind.i8.wrap b.toNat) ?_).cast rfl rfl (by rw [w]) rfl
  simp only [AllP, leAll]
  repeat' (first | exact trivial | exact rfl | exact M | exact C3 | exact C2 | exact N | exact M2 | exact notFix _ (by omega) | exact notNeg _ (by omega) | exact Le.refl _ | exact RowLe.refl _ | with_reducible apply And.intro)
theorem readI204N (x1 : UInt8) : GetsN 67 (.tup [iL ((x1.toNat : Nat) : Int), nI]) [204, x1] := fun T z g t hT hT2 hz hg => by
  obtain ⟨o2, r2, l2, p2, bf2, S2, C2⟩ := peekN T z g 204 (x1 :: t) hT hT2 hz hg
  obtain ⟨o3, r3, l3, p3, bf3, S3, hb, hlen, C3⟩ := nextO (a := [204, x1]) (t := t) S2 2 rfl
  refine ⟨o3, r3, l3, p3 + 2, bf3, S3, ?_⟩
  have b1 : bf3.getD (p3 + 1) 0 = x1 := byte_at hb 1 (by simp) rfl
  have h1 := x1.toNat_lt
  have M := g106 bf3 p3 (by simp only [AllP]; exact ⟨by omega, trivial⟩)
  rw [b1] at M
  have w : IntKind.i64.wrap ((x1.toNat : Nat) : Int) = ((x1.toNat : Nat) : Int) := wrap64 (by omega) (by omega)
  have N := trivial
  refine (riN204 z g 0 ([204, x1] ++ t).length o2 r2 l2 p2 o3 r3 l3 p3 (p3 + 2) bf2 bf3 ([204, x1] ++ t) ((x1.toNat : Nat) : Int) ?_).cast rfl rfl (by rw [w]) rfl
  simp only [AllP, leAll]
  repeat' (first | exact trivial | exact rfl | exact M | exact C3 | exact C2 | exact N | exact notFix _ (by omega) | exact notNeg _ (by omega) | exact Le.refl _ | exact RowLe.refl _ | with_reducible apply And.intro)
theorem readI205N (x1 x2 : UInt8) : GetsN 67 (.tup [iL (((x1.toNat) * 256 + x2.toNat : Nat) : Int), nI]) [205, x1, x2] := fun T z g t hT hT2 hz hg => by
  obtain ⟨o2, r2, l2, p2, bf2, S2, C2⟩ := peekN T z g 205 (x1 :: x2 :: t) hT hT2 hz hg
  obtain ⟨o3, r3, l3, p3, bf3, S3, hb, hlen, C3⟩ := nextO (a := [205, x1, x2]) (t := t) S2 3 rfl
  refine ⟨o3, r3, l3, p3 + 3, bf3, S3, ?_⟩
  have b1 : bf3.getD (p3 + 1) 0 = x1 := byte_at hb 1 (by simp) rfl
  have h1 := x1.toNat_lt
  have b2 : bf3.getD (p3 + 2) 0 = x2 := byte_at hb 2 (by simp) rfl
  have h2 := x2.toNat_lt
  have M := getM108 bf3 p3 (by omega)
  rw [b1, b2, m108_eq] at M
  have w0 : IntKind.u16.wrap (((x1.toNat) * 256 + x2.toNat : Nat) : Int) = (((x1.toNat) * 256 + x2.toNat : Nat) : Int) := by simp only [IntKind.wrap, IntKind.bits, IntKind.signed]; simp; omega
  rw [w0] at M
  have w : IntKind.i64.wrap (((x1.toNat) * 256 + x2.toNat : Nat) : Int) = (((x1.toNat) * 256 + x2.toNat : Nat) : Int) := wrap64 (by omega) (by omega)
  have N := trivial
  refine (riN205 z g 0 ([205, x1, x2] ++ t).length o2 r2 l2 p2 o3 r3 l3 p3 (p3 + 3) bf2 bf3 ([205, x1, x2] ++ t) (((x1.toNat) * 256 + x2.toNat : Nat) : Int) ?_).cast rfl rfl (by rw [w]) rfl
  simp only [AllP, leAll]
  repeat' (first | exact trivial | exact rfl | exact M | exact C3 | exact C2 | exact N | exact notFix _ (by omega) | exact notNeg _ (by omega) | exact Le.refl _ | exact RowLe.refl _ | with_reducible apply And.intro)
theorem readI206N (x1 x2 x3 x4 : UInt8) : GetsN 67 (.tup [iL (((((x1.toNat) * 256 + x2.toNat) * 256 + x3.toNat) * 256 + x4.toNat : Nat) : Int), nI]) [206, x1, x2, x3, x4] := fun T z g t hT hT2 hz hg => by
  obtain ⟨o2, r2, l2, p2, bf2, S2, C2⟩ := peekN T z g 206 (x1 :: x2 :: x3 :: x4 :: t) hT hT2 hz hg
  obtain ⟨o3, r3, l3, p3, bf3, S3, hb, hlen, C3⟩ := nextO (a := [206, x1, x2, x3, x4]) (t := t) S2 5 rfl
  refine ⟨o3, r3, l3, p3 + 5, bf3, S3, ?_⟩
  have b1 : bf3.getD (p3 + 1) 0 = x1 := byte_at hb 1 (by simp) rfl
  have h1 := x1.toNat_lt
  have b2 : bf3.getD (p3 + 2) 0 = x2 := byte_at hb 2 (by simp) rfl
  have h2 := x2.toNat_lt
  have b3 : bf3.getD (p3 + 3) 0 = x3 := byte_at hb 3 (by simp) rfl
  have h3 := x3.toNat_lt
  have b4 : bf3.getD (p3 + 4) 0 = x4 := byte_at hb 4 (by simp) rfl
  have h4 := x4.toNat_lt
  have M := getM110 bf3 p3 (by omega)
  rw [b1, b2, b3, b4, m110_eq] at M
  have w0 : IntKind.u32.wrap (((((x1.toNat) * 256 + x2.toNat) * 256 + x3.toNat) * 256 + x4.toNat : Nat) : Int) = (((((x1.toNat) * 256 + x2.toNat) * 256 + x3.toNat) * 256 + x4.toNat : Nat) : Int) := by simp only [IntKind.wrap, IntKind.bits, IntKind.signed]; simp; omega
  rw [w0] at M
  have w : IntKind.i64.wrap (((((x1.toNat) * 256 + x2.toNat) * 256 + x3.toNat) * 256 + x4.toNat : Nat) : Int) = (((((x1.toNat) * 256 + x2.toNat) * 256 + x3.toNat) * 256 + x4.toNat : Nat) : Int) := wrap64 (by omega) (by omega)
  have N := trivial
  refine (riN206 z g 0 ([206, x1, x2, x3, x4] ++ t).length o2 r2 l2 p2 o3 r3 l3 p3 (p3 + 5) bf2 bf3 ([206, x1, x2, x3, x4] ++ t) (((((x1.toNat) * 256 + x2.toNat) * 256 + x3.toNat) * 256 + x4.toNat : Nat) : Int) ?_).cast rfl rfl (by rw [w]) rfl
  simp only [AllP, leAll]
  repeat' (first | exact trivial | exact rfl | exact M | exact C3 | exact C2 | exact N | exact notFix _ (by omega) | exact notNeg _ (by omega) | exact Le.refl _ | exact RowLe.refl _ | with_reducible apply And.intro)
theorem readI207N (x1 x2 x3 x4 x5 x6 x7 x8 : UInt8) (h0 : x1.toNat < 128) : GetsN 67 (.tup [iL (((((((((x1.toNat) * 256 + x2.toNat) * 256 + x3.toNat) * 256 + x4.toNat) * 256 + x5.toNat) * 256 + x6.toNat) * 256 + x7.toNat) * 256 + x8.toNat : Nat) : Int), nI]) [207, x1, x2, x3, x4, x5, x6, x7, x8] := fun T z g t hT hT2 hz hg => by
  obtain ⟨o2, r2, l2, p2, bf2, S2, C2⟩ := peekN T z g 207 (x1 :: x2 :: x3 :: x4 :: x5 :: x6 :: x7 :: x8 :: t) hT hT2 hz hg
  obtain ⟨o3, r3, l3, p3, bf3, S3, hb, hlen, C3⟩ := nextO (a := [207, x1, x2, x3, x4, x5, x6, x7, x8]) (t := t) S2 9 rfl
  refine ⟨o3, r3, l3, p3 + 9, bf3, S3, ?_⟩
  have b1 : bf3.getD (p3 + 1) 0 = x1 := byte_at hb 1 (by simp) rfl
  have h1 := x1.toNat_lt
  have b2 : bf3.getD (p3 + 2) 0 = x2 := byte_at hb 2 (by simp) rfl
  have h2 := x2.toNat_lt
  have b3 : bf3.getD (p3 + 3) 0 = x3 := byte_at hb 3 (by simp) rfl
  have h3 := x3.toNat_lt
  have b4 : bf3.getD (p3 + 4) 0 = x4 := byte_at hb 4 (by simp) rfl
  have h4 := x4.toNat_lt
  have b5 : bf3.getD (p3 + 5) 0 = x5 := byte_at hb 5 (by simp) rfl
  have h5 := x5.toNat_lt
  have b6 : bf3.getD (p3 + 6) 0 = x6 := byte_at hb 6 (by simp) rfl
  have h6 := x6.toNat_lt
  have b7 : bf3.getD (p3 + 7) 0 = x7 := byte_at hb 7 (by simp) rfl
  have h7 := x7.toNat_lt
  have b8 : bf3.getD (p3 + 8) 0 = x8 := byte_at hb 8 (by simp) rfl
  have h8 := x8.toNat_lt
  have M := getM112 bf3 p3 (by omega)
  rw [b1, b2, b3, b4, b5, b6, b7, b8, m112_eq] at M
  have w0 : IntKind.u64.wrap (((((((((x1.toNat) * 256 + x2.toNat) * 256 + x3.toNat) * 256 + x4.toNat) * 256 + x5.toNat) * 256 + x6.toNat) * 256 + x7.toNat) * 256 + x8.toNat : Nat) : Int) = (((((((((x1.toNat) * 256 + x2.toNat) * 256 + x3.toNat) * 256 + x4.toNat) * 256 + x5.toNat) * 256 + x6.toNat) * 256 + x7.toNat) * 256 + x8.toNat : Nat) : Int) := by simp only [IntKind.wrap, IntKind.bits, IntKind.signed]; simp; omega
  rw [w0] at M
  have w : IntKind.i64.wrap (((((((((x1.toNat) * 256 + x2.toNat) * 256 + x3.toNat) * 256 + x4.toNat) * 256 + x5.toNat) * 256 + x6.toNat) * 256 + x7.toNat) * 256 + x8.toNat : Nat) : Int) = (((((((((x1.toNat) * 256 + x2.toNat) * 256 + x3.toNat) * 256 + x4.toNat) * 256 + x5.toNat) * 256 + x6.toNat) * 256 + x7.toNat) * 256 + x8.toNat : Nat) : Int) := wrap64 (by omega) (by omega)
  have N : decide ((((((((((x1.toNat) * 256 + x2.toNat) * 256 + x3.toNat) * 256 + x4.toNat) * 256 + x5.toNat) * 256 + x6.toNat) * 256 + x7.toNat) * 256 + x8.toNat : Nat) : Int) > 9223372036854775807) = false := decide_eq_false (by omega)
  refine (riN207 z g 0 ([207, x1, x2, x3, x4, x5, x6, x7, x8] ++ t).length o2 r2 l2 p2 o3 r3 l3 p3 (p3 + 9) bf2 bf3 ([207, x1, x2, x3, x4, x5, x6, x7, x8] ++ t) (((((((((x1.toNat) * 256 + x2.toNat) * 256 + x3.toNat) * 256 + x4.toNat) * 256 + x5.toNat) * 256 + x6.toNat) * 256 + x7.toNat) * 256 + x8.toNat : Nat) : Int) ?_).cast rfl rfl (by rw [w]) rfl
  simp only [AllP, leAll]
  repeat' (first | exact trivial | exact rfl | exact M | exact C3 | exact C2 | exact N | exact notFix _ (by omega) | exact notNeg _ (by omega) | exact Le.refl _ | exact RowLe.refl _ | with_reducible apply And.intro)
theorem readI208N (x1 : UInt8) : GetsN 67 (.tup [iL (IntKind.i8.wrap ((x1.toNat : Nat) : Int)), nI]) [208, x1] := fun T z g t hT hT2 hz hg => by
  obtain ⟨o2, r2, l2, p2, bf2, S2, C2⟩ := peekN T z g 208 (x1 :: t) hT hT2 hz hg
  obtain ⟨o3, r3, l3, p3, bf3, S3, hb, hlen, C3⟩ := nextO (a := [208, x1]) (t := t) S2 2 rfl
  refine ⟨o3, r3, l3, p3 + 2, bf3, S3, ?_⟩
  have b1 : bf3.getD (p3 + 1) 0 = x1 := byte_at hb 1 (by simp) rfl
  have h1 := x1.toNat_lt
  have M := g105 bf3 p3 (by simp only [AllP]; exact ⟨by omega, trivial⟩)
  rw [b1] at M
  have w := i64of .i8 (by decide) ((x1.toNat : Nat) : Int)
  have N := trivial
  refine (riN208 z g 0 ([208, x1] ++ t).length o2 r2 l2 p2 o3 r3 l3 p3 (p3 + 2) bf2 bf3 ([208, x1] ++ t) (IntKind.i8.wrap ((x1.toNat : Nat) : Int)) ?_).cast rfl rfl (by rw [w]) rfl
  simp only [AllP, leAll]
  repeat' (first | exact trivial | exact rfl | exact M | exact C3 | exact C2 | exact N | exact notFix _ (by omega) | exact notNeg _ (by omega) | exact Le.refl _ | exact RowLe.refl _ | with_reducible apply And.intro)
theorem readI209N (x1 x2 : UInt8) : GetsN 67 (.tup [iL (IntKind.i16.wrap (((x1.toNat) * 256 + x2.toNat : Nat) : Int)), nI]) [209, x1, x2] := fun T z g t hT hT2 hz hg => by
  obtain ⟨o2, r2, l2, p2, bf2, S2, C2⟩ := peekN T z g 209 (x1 :: x2 :: t) hT hT2 hz hg
  obtain ⟨o3, r3, l3, p3, bf3, S3, hb, hlen, C3⟩ := nextO (a := [209, x1, x2]) (t := t) S2 3 rfl
  refine ⟨o3, r3, l3, p3 + 3, bf3, S3, ?_⟩
  have b1 : bf3.getD (p3 + 1) 0 = x1 := byte_at hb 1 (by simp) rfl
  have h1 := x1.toNat_lt
  have b2 : bf3.getD (p3 + 2) 0 = x2 := byte_at hb 2 (by simp) rfl
  have h2 := x2.toNat_lt
  have M := getM107 bf3 p3 (by omega)
  rw [b1, b2, m107_eq] at M
  have w := i64of .i16 (by decide) (((x1.toNat) * 256 + x2.toNat : Nat) : Int)
  have N := trivial
  refine (riN209 z g 0 ([209, x1, x2] ++ t).length o2 r2 l2 p2 o3 r3 l3 p3 (p3 + 3) bf2 bf3 ([209, x1, x2] ++ t) (IntKind.i16.wrap (((x1.toNat) * 256 + x2.toNat : Nat) : Int)) ?_).cast rfl rfl (by rw [w]) rfl
  simp only [AllP, leAll]
  repeat' (first | exact trivial | exact rfl | exact M | exact C3 | exact C2 | exact N | exact notFix _ (by omega) | exact notNeg _ (by omega) | exact Le.refl _ | exact RowLe.refl _ | with_reducible apply And.intro)
theorem readI210N (x1 x2 x3 x4 : UInt8) : GetsN 67 (.tup [iL (IntKind.i32.wrap (((((x1.toNat) * 256 + x2.toNat) * 256 + x3.toNat) * 256 + x4.toNat : Nat) : Int)), nI]) [210, x1, x2, x3, x4] := fun T z g t hT hT2 hz hg => by
  obtain ⟨o2, r2, l2, p2, bf2, S2, C2⟩ := peekN T z g 210 (x1 :: x2 :: x3 :: x4 :: t) hT hT2 hz hg
  obtain ⟨o3, r3, l3, p3, bf3, S3, hb, hlen, C3⟩ := nextO (a := [210, x1, x2, x3, x4]) (t := t) S2 5 rfl
  refine ⟨o3, r3, l3, p3 + 5, bf3, S3, ?_⟩
  have b1 : bf3.getD (p3 + 1) 0 = x1 := byte_at hb 1 (by simp) rfl
  have h1 := x1.toNat_lt
  have b2 : bf3.getD (p3 + 2) 0 = x2 := byte_at hb 2 (by simp) rfl
  have h2 := x2.toNat_lt
  have b3 : bf3.getD (p3 + 3) 0 = x3 := byte_at hb 3 (by simp) rfl
  have h3 := x3.toNat_lt
  have b4 : bf3.getD (p3 + 4) 0 = x4 := byte_at hb 4 (by simp) rfl
  have h4 := x4.toNat_lt
  have M := getM109 bf3 p3 (by omega)
  rw [b1, b2, b3, b4, m109_eq] at M
  have w := i64of .i32 (by decide) (((((x1.toNat) * 256 + x2.toNat) * 256 + x3.toNat) * 256 + x4.toNat : Nat) : Int)
  have N := trivial
  refine (riN210 z g 0 ([210, x1, x2, x3, x4] ++ t).length o2 r2 l2 p2 o3 r3 l3 p3 (p3 + 5) bf2 bf3 ([210, x1, x2, x3, x4] ++ t) (IntKind.i32.wrap (((((x1.toNat) * 256 + x2.toNat) * 256 + x3.toNat) * 256 + x4.toNat : Nat) : Int)) ?_).cast rfl rfl (by rw [w]) rfl
  simp only [AllP, leAll]
  repeat' (first | exact trivial | exact rfl | exact M | exact C3 | exact C2 | exact N | exact notFix _ (by omega) | exact notNeg _ (by omega) | exact Le.refl _ | exact RowLe.refl _ | with_reducible apply And.intro)
theorem readI211N (x1 x2 x3 x4 x5 x6 x7 x8 : UInt8) : GetsN 67 (.tup [iL (IntKind.i64.wrap (((((((((x1.toNat) * 256 + x2.toNat) * 256 + x3.toNat) * 256 + x4.toNat) * 256 + x5.toNat) * 256 + x6.toNat) * 256 + x7.toNat) * 256 + x8.toNat : Nat) : Int)), nI]) [211, x1, x2, x3, x4, x5, x6, x7, x8] := fun T z g t hT hT2 hz hg => by
  obtain ⟨o2, r2, l2, p2, bf2, S2, C2⟩ := peekN T z g 211 (x1 :: x2 :: x3 :: x4 :: x5 :: x6 :: x7 :: x8 :: t) hT hT2 hz hg
  obtain ⟨o3, r3, l3, p3, bf3, S3, hb, hlen, C3⟩ := nextO (a := [211, x1, x2, x3, x4, x5, x6, x7, x8]) (t := t) S2 9 rfl
  refine ⟨o3, r3, l3, p3 + 9, bf3, S3, ?_⟩
  have b1 : bf3.getD (p3 + 1) 0 = x1 := byte_at hb 1 (by simp) rfl
  have h1 := x1.toNat_lt
  have b2 : bf3.getD (p3 + 2) 0 = x2 := byte_at hb 2 (by simp) rfl
  have h2 := x2.toNat_lt
  have b3 : bf3.getD (p3 + 3) 0 = x3 := byte_at hb 3 (by simp) rfl
  have h3 := x3.toNat_lt
  have b4 : bf3.getD (p3 + 4) 0 = x4 := byte_at hb 4 (by simp) rfl
  have h4 := x4.toNat_lt
  have b5 : bf3.getD (p3 + 5) 0 = x5 := byte_at hb 5 (by simp) rfl
  have h5 := x5.toNat_lt
  have b6 : bf3.getD (p3 + 6) 0 = x6 := byte_at hb 6 (by simp) rfl
  have h6 := x6.toNat_lt
  have b7 : bf3.getD (p3 + 7) 0 = x7 := byte_at hb 7 (by simp) rfl
  have h7 := x7.toNat_lt
  have b8 : bf3.getD (p3 + 8) 0 = x8 := byte_at hb 8 (by simp) rfl
  have h8 := x8.toNat_lt
  have M := getM111 bf3 p3 (by omega)
  rw [b1, b2, b3, b4, b5, b6, b7, b8, m111_eq] at M
  have w := i64of .i64 (by decide) (((((((((x1.toNat) * 256 + x2.toNat) * 256 + x3.toNat) * 256 + x4.toNat) * 256 + x5.toNat) * 256 + x6.toNat) * 256 + x7.toNat) * 256 + x8.toNat : Nat) : Int)
  have N := trivial
  refine (riN211 z g 0 ([211, x1, x2, x3, x4, x5, x6, x7, x8] ++ t).length o2 r2 l2 p2 o3 r3 l3 p3 (p3 + 9) bf2 bf3 ([211, x1, x2, x3, x4, x5, x6, x7, x8] ++ t) (IntKind.i64.wrap (((((((((x1.toNat) * 256 + x2.toNat) * 256 + x3.toNat) * 256 + x4.toNat) * 256 + x5.toNat) * 256 + x6.toNat) * 256 + x7.toNat) * 256 + x8.toNat : Nat) : Int)) ?_).cast rfl rfl rfl rfl
  simp only [AllP, leAll]
  repeat' (first | exact trivial | exact rfl | exact M | exact C3 | exact C2 | exact N | exact notFix _ (by omega) | exact notNeg _ (by omega) | exact Le.refl _ | exact RowLe.refl _ | with_reducible apply And.intro)
theorem GetsN.takerI {v : Int} {a : List UInt8} (h : GetsN 67 (.tup [iL v, nI]) a) : GetsN 66 (.tup [iL v, nI]) a := fun T z g t h1 h2 h3 h4 => by
  obtain ⟨o2, r2, l2, p2, bf2, S2, C⟩ := h T z g t h1 h2 h3 h4
  refine ⟨o2, r2, l2, p2, bf2, S2, rd66N z g 0 (a ++ t).length o2 r2 l2 p2 bf2 (a ++ t) v ?_⟩
  simp only [AllP, leAll]
  repeat' (first | exact trivial | exact rfl | exact C | exact Le.refl _ | exact RowLe.refl _ | with_reducible apply And.intro)

theorem wrapI8 (v : Int) : IntKind.i8.wrap v = (v + 128) % 256 - 128 := by simp only [IntKind.wrap, IntKind.bits, IntKind.signed]; simp; try omega
theorem wrapI16 (v : Int) : IntKind.i16.wrap v = (v + 32768) % 65536 - 32768 := by simp only [IntKind.wrap, IntKind.bits, IntKind.signed]; simp; try omega
theorem wrapI32 (v : Int) : IntKind.i32.wrap v = (v + 2147483648) % 4294967296 - 2147483648 := by simp only [IntKind.wrap, IntKind.bits, IntKind.signed]; simp; try omega

/-- A number with a sign, in whatever form: what is read is the number itself. -/
theorem readSg (u : Int) (h0 : 0 ≤ u) (h1 : u < 18446744073709551616) (i s : Nat) (hm : (i, s) ∈ [(0, 1), (1, 2), (2, 4), (3, 8)]) (hu : u < 2 ^ (8 * s - 1) ∨ 18446744073709551616 - 2 ^ (8 * s - 1) ≤ u) :
    Gets 67 (.tup [iL (IntKind.i64.wrap u), nI]) (UInt8.ofNat (208 + i) :: bigL u s) := by
  simp at hm
  rw [wrapI64]
  rcases hm with ⟨rfl, rfl⟩ | ⟨rfl, rfl⟩ | ⟨rfl, rfl⟩ | ⟨rfl, rfl⟩
  · rw [bigL1]
    exact Gets.eqI ⟨readI208O _, readI208N _⟩ (by rw [byteZ, wrapI8]; omega)
  · rw [bigL2]
    exact Gets.eqI ⟨readI209O _ _, readI209N _ _⟩ (by rw [vb2 u h0, wrapI16]; omega)
  · rw [bigL4]
    exact Gets.eqI ⟨readI210O _ _ _ _, readI210N _ _ _ _⟩ (by rw [vb4 u h0, wrapI32]; omega)
  · rw [bigL8]
    exact Gets.eqI ⟨readI211O _ _ _ _ _ _ _ _, readI211N _ _ _ _ _ _ _ _⟩ (by rw [vb8 u h0 h1, wrapI64])

theorem readInt64 (u : Int) (h0 : 0 ≤ u) (h1 : u < 18446744073709551616) (out : List UInt8) (h : IntOut u true out) : Gets 67 (.tup [iL (IntKind.i64.wrap u), nI]) out := by
  unfold IntOut at h
  split at h
  · next hs =>
    rcases h with ⟨hu, rfl⟩ | ⟨i, s, hm, hu, rfl⟩
    · have hb : 224 ≤ (byteI u).toNat := by rw [byteI_nat]; omega
      exact Gets.eqI ⟨readInegO _ hb, readInegN _ hb⟩ (by rw [byteZ, wrapI8, wrapI64]; omega)
    · exact readSg u h0 h1 i s hm (.inr hu)
  · next hs =>
    have hs' : u < 9223372036854775808 := by
      by_cases q : 9223372036854775808 ≤ u
      · exact absurd ⟨rfl, q⟩ hs
      · omega
    have w : IntKind.i64.wrap u = u := wrap64 (by omega) (by omega)
    rcases h with ⟨hu, rfl⟩ | ⟨p, hp, rfl⟩ | ⟨i, s, hm, hu, rfl⟩
    · have hb : (byteI u).toNat < 128 := by rw [byteI_nat]; omega
      rw [w]
      exact Gets.eqI ⟨readIfixO _ hb, readIfixN _ hb⟩ (by rw [byteZ]; omega)
    · obtain ⟨hm, hf⟩ := List.mem_filter.1 hp
      simp at hm
      rw [w]
      rcases hm with rfl | rfl | rfl | rfl
      · have hlt : u < 256 := by have := fitB_lt (by decide) hf; simpa using this
        have hh : headL 204 1 u = 204 :: bigL u 1 := rfl
        rw [hh, bigL1]
        exact Gets.eqI ⟨readI204O _, readI204N _⟩ (by rw [byteZ]; omega)
      · have hlt : u < 65536 := by have := fitB_lt (by decide) hf; simpa using this
        have hh : headL 205 2 u = 205 :: bigL u 2 := rfl
        rw [hh, bigL2]
        exact Gets.eqI ⟨readI205O _ _, readI205N _ _⟩ ((vb2 u h0).trans (by omega))
      · have hlt : u < 4294967296 := by have := fitB_lt (by decide) hf; simpa using this
        have hh : headL 206 4 u = 206 :: bigL u 4 := rfl
        rw [hh, bigL4]
        exact Gets.eqI ⟨readI206O _ _ _ _, readI206N _ _ _ _⟩ ((vb4 u h0).trans (by omega))
      · have hh : headL 207 8 u = 207 :: bigL u 8 := rfl
        have hb : (byteI (u / 72057594037927936)).toNat < 128 := by rw [byteI_nat]; omega
        rw [hh, bigL8]
        exact Gets.eqI ⟨readI207O _ _ _ _ _ _ _ _ hb, readI207N _ _ _ _ _ _ _ _ hb⟩ (vb8 u h0 h1)
    · exact readSg u h0 h1 i s hm (.inl hu)

theorem getsi (x : Int) (hv : -9223372036854775808 ≤ x ∧ x ≤ 9223372036854775807) (y : List UInt8) (h : IntOut (IntKind.u64.wrap x) true y) : Gets 66 (.tup [iL x, nI]) y := by
  have hw : 0 ≤ IntKind.u64.wrap x ∧ IntKind.u64.wrap x < 18446744073709551616 := by rw [wrapU64]; omega
  have q := readInt64 _ hw.1 hw.2 y h
  have e : IntKind.i64.wrap (IntKind.u64.wrap x) = x := by rw [wrapU64, wrapI64]; omega
  rw [e] at q
  exact ⟨q.1.takerI, q.2.takerI⟩
end Go.Ax
