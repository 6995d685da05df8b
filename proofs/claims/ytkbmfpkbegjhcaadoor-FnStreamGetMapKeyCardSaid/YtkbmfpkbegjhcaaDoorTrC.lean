/-
  What a Reader over a stream reads: texts.
-/
import Derived.Test.YtkbmfpkbegjhcaaDoorTrA
import Derived.Test.YtkbmfpkbegjhcaaDoorTrB
import Derived.Test.YtkbmfpkbegjhcaaDoorTrV
import Derived.Test.YtkbmfpkbegjhcaaDoorSmG
set_option linter.unusedVariables false
set_option linter.unusedSimpArgs false
set_option maxRecDepth 100000
namespace Go.Ax
open Go.Proofs

theorem fullO {T z g o r l p : Nat} {bf dat a t : List UInt8} (S : Held T z g o r l p bf dat (a ++ t)) (n : Nat) (ha : a.length = n) (zs : List UInt8) (hz : zs.length = n) :
    ∃ o2 r2 l2 p2 bf2, Held T z g o2 r2 l2 p2 bf2 dat t ∧ A0 87 [.ptr 0 0, .own 4 0 n (some n)] [srcR 2 l bf.length p z, drpR 3 o r g, .bytes 5 bf, .bytes 5 dat, .bytes 5 zs] (.tup [iL n, nI])
      [srcR 5 l2 bf2.length p2 z, drpR 6 o2 r2 g, .gone, .gone, .bytes 5 a, .bytes 5 bf2, .bytes 5 dat] := by
  obtain ⟨o2, r2, l2, p2, bf2, S2, h2, C⟩ := moreO S n (by simp; omega)
  have b1 := S2.hT
  have b2 := S2.hT2
  have b3 := S2.hz
  have b4 := S2.hl
  have b5 := S2.hb
  have b9 := S2.hp
  refine ⟨o2, r2, l2, p2 + n, bf2, S2.adv n ha h2, ?_⟩
  have hm : Min.min (List.take (((l2 : Nat) : Int).toNat - ((p2 : Nat) : Int).toNat) (List.drop (0 + ((p2 : Nat) : Int).toNat * 1) bf2)).length n = n := by
    simp only [Int.toNat_natCast, Nat.zero_add, Nat.mul_one, List.length_take, List.length_drop]; omega
  have w2 : IntKind.i64.wrap ((p2 : Int) + n) = ((p2 + n : Nat) : Int) := by rw [wrap64 (by omega) (by omega)]; omega
  have d1 : decide ((n : Int) < (n : Int)) = false := by simp
  have e := rdfl z g o r l p o2 r2 l2 p2 bf bf2 dat n zs (by
    simp only [AllP, leAll, hm]
    exact ⟨by omega, d1, ⟨by omega, by omega, .inl (by omega)⟩, C, ⟨Le.refl _, Le.refl _, trivial⟩, ⟨RowLe.refl _, RowLe.refl _, RowLe.refl _, RowLe.refl _, trivial⟩, trivial⟩)
  rw [hm, w2] at e
  have hr : List.take 0 zs ++ List.take n (List.take (((l2 : Nat) : Int).toNat - ((p2 : Nat) : Int).toNat) (List.drop (0 + ((p2 : Nat) : Int).toNat * 1) bf2)) ++ List.drop (0 + n) zs = a := by
    rw [List.drop_of_length_le (l := zs) (by omega), List.append_nil, List.take_zero, List.nil_append]
    simp only [Int.toNat_natCast, Nat.zero_add, Nat.mul_one, List.take_take]
    rw [Nat.min_eq_left h2]
    exact S2.at n ha h2
  rw [hr] at e
  exact e

theorem emptyO {T z g o r l p : Nat} {bf dat t : List UInt8} (S : Held T z g o r l p bf dat t) :
    ∃ o2 r2 l2 p2 bf2, Held T z g o2 r2 l2 p2 bf2 dat t ∧ A0 87 [.ptr 0 0, nL] (rowsO z g o r l p bf dat) (.tup [iL 0, nI]) (rowsP z g o2 r2 l2 p2 bf2 dat) := by
  obtain ⟨o2, r2, l2, p2, bf2, S2, h2, C⟩ := moreO S 0 (by omega)
  have b1 := S2.hT
  have b2 := S2.hT2
  have b3 := S2.hz
  have b4 := S2.hl
  have b5 := S2.hb
  have b9 := S2.hp
  refine ⟨o2, r2, l2, p2, bf2, S2, ?_⟩
  have w2 : IntKind.i64.wrap ((p2 : Int) + 0) = ((p2 : Nat) : Int) := by rw [wrap64 (by omega) (by omega)]; omega
  have e := rfz z g o r l p o2 r2 l2 p2 bf bf2 dat (by
    simp only [AllP, leAll]
    exact ⟨by omega, trivial, ⟨by omega, by omega, .inl (by omega)⟩, C, ⟨Le.refl _, Le.refl _, trivial⟩, ⟨RowLe.refl _, RowLe.refl _, RowLe.refl _, RowLe.refl _, trivial⟩, trivial⟩)
  rw [w2] at e
  exact e

theorem t79 : ∀ n : Fin 256, (IntKind.u8.wrap ((BitVec.ofInt IntKind.u8.bits (n.val : Int) &&& BitVec.ofInt IntKind.u8.bits (224 : Int)).toNat : Int) == (160 : Int)) = decide (160 ≤ n.val ∧ n.val < 192) := by decide
theorem t80 : ∀ n : Fin 256, IntKind.u8.wrap ((BitVec.ofInt IntKind.u8.bits (n.val : Int) &&& BitVec.ofInt IntKind.u8.bits (31 : Int)).toNat : Int) = ((n.val % 32 : Nat) : Int) := by decide
theorem isStr (b : UInt8) (h : 160 ≤ b.toNat ∧ b.toNat < 192) : A0 79 [u8 b] [] (bL true) [] :=
  (q79 b.toNat trivial).cast rfl rfl (by rw [t79 ⟨b.toNat, b.toNat_lt⟩, decide_eq_true h]) rfl
theorem notStr (v : Nat) (hv : v < 256) (h : ¬ (160 ≤ v ∧ v < 192)) : A0 79 [.lit (.int .u8 v)] [] (bL false) [] :=
  (q79 v trivial).cast rfl rfl (by rw [t79 ⟨v, hv⟩, decide_eq_false h]) rfl
theorem rStr (b : UInt8) : A0 80 [u8 b] [] (.lit (.int .u8 ((b.toNat % 32 : Nat) : Int))) [] :=
  (q80 b.toNat trivial).cast rfl rfl (by rw [t80 ⟨b.toNat, b.toNat_lt⟩]) rfl

/-- A Reader's ReadStringAsBytes takes these bytes off a stream and gives this text: with a buffer; without. -/
def GetsTO (a tx : List UInt8) : Prop :=
  ∀ (T z g o r l p : Nat) (bf dat t : List UInt8), Held T z g o r l p bf dat (a ++ t) →
    ∃ o2 r2 l2 p2 bf2, Held T z g o2 r2 l2 p2 bf2 dat t ∧ A0 42 [.ptr 0 0, nL] (rowsRO z g o r l p bf dat) (.tup [.bts tx, nI]) (rowsRP z g o2 r2 l2 p2 bf2 dat)
def GetsTN (a tx : List UInt8) : Prop :=
  ∀ (T z g : Nat) (t : List UInt8), (a ++ t).length ≤ T → T ≤ 1000000000000 → 16 ≤ z ∧ z ≤ 65536 → 1 ≤ g ∧ g ≤ 65536 →
    ∃ o2 r2 l2 p2 bf2, Held T z g o2 r2 l2 p2 bf2 (a ++ t) t ∧ A0 42 [.ptr 0 0, nL] (rowsRN z g 0 (a ++ t).length (a ++ t)) (.tup [.bts tx, nI]) (rowsRQ z g o2 r2 l2 p2 bf2 (a ++ t))
theorem Le_tz : Le (.tup [nL, nI]) (.tup [.bts [], nI]) := Le_tup ⟨Le_nil, Le.refl _, trivial⟩

theorem text0O (b : UInt8) (tx : List UInt8) (hb : b.toNat = 160 + tx.length) (hn : tx.length < 32) : GetsTO ([b] ++ tx) tx := fun T z g o r l p bf dat t S => by
  obtain ⟨o2, r2, l2, p2, bf2, S2, C2⟩ := peekO (b := b) (t := (tx ++ t)) S
  obtain ⟨o3, r3, l3, q3, bf3, S3, C3⟩ := skipO (a := [b]) (t := tx ++ t) S2 1 rfl
  have p3 := 0
  have M := q86 z g o3 r3 l3 q3 bf3 dat ⟨rfl, trivial⟩
  have N := isStr b (by omega)
  have K := rStr b
  rw [show b.toNat % 32 = tx.length by omega] at K
  rcases Nat.eq_zero_or_pos tx.length with h0 | h0
  · obtain rfl := List.eq_nil_of_length_eq_zero h0
    obtain ⟨o4, r4, l4, p4, bf4, S4, C4⟩ := emptyO (t := t) S3
    refine ⟨o4, r4, l4, p4, bf4, S4, ?_⟩
    have d1 := trivial
    have d2 := trivial
    simp only [List.length_nil] at K
    refine (tsOz0 z g o r l p o2 r2 l2 p2 o3 r3 l3 0 q3 o4 r4 l4 p4 bf bf2 bf3 bf4 dat b ?_).le (leAll_refl _) Le_tz rfl
    simp only [AllP, leAll]
    repeat' (first | exact trivial | exact rfl | exact C2 | exact C3 | exact C4 | exact M | exact N | exact K | exact d1 | exact d2 | exact Le.refl _ | exact RowLe.refl _ | omega | decide | with_reducible apply And.intro)
  · have w1 : IntKind.i64.wrap (tx.length : Int) = tx.length := wrap64 (by omega) (by omega)
    have w2 : IntKind.u64.wrap (tx.length : Int) = tx.length := by rw [wrapU64]; omega
    have d1 : decide ((0 : Int) < (tx.length : Int)) = true := by simp; omega
    have d2 : decide ((tx.length : Int) > 1048576) = false := by simp; omega
    obtain ⟨o4, r4, l4, p4, bf4, S4, C4⟩ := fullO (a := tx) (t := t) S3 tx.length rfl (List.replicate tx.length 0) (by simp)
    refine ⟨o4, r4, l4, p4, bf4, S4, ?_⟩
    have e := tsOt0 z g o r l p o2 r2 l2 p2 o3 r3 l3 0 q3 o4 r4 l4 p4 bf bf2 bf3 bf4 dat b tx.length tx (by
      simp only [AllP, leAll, w1, w2, Int.toNat_natCast]
      repeat' (first | exact trivial | exact rfl | exact C2 | exact C3 | exact C4 | exact M | exact N | exact K | exact d1 | exact d2 | exact Le.refl _ | exact RowLe.refl _ | omega | decide | with_reducible apply And.intro))
    rw [w1, Int.toNat_natCast] at e
    refine ((e.freezeRet 5 rfl rfl).only [0, 1, 2, 3, 4, 6, 7] rfl).cast rfl rfl ?_ rfl
    simp [AV.frz, AV.frzL, frzOwn, AV.ren, AV.renL]

theorem text1O (x1 : UInt8) (tx : List UInt8) (hb : x1.toNat = tx.length) (hn : tx.length ≤ 65536) : GetsTO ([217, x1] ++ tx) tx := fun T z g o r l p bf dat t S => by
  obtain ⟨o2, r2, l2, p2, bf2, S2, C2⟩ := peekO (b := 217) (t := x1 :: (tx ++ t)) S
  obtain ⟨o3, r3, l3, p3, bf3, S3, hb3, hlen, C3⟩ := nextO (a := [217, x1]) (t := tx ++ t) S2 2 rfl
  have b1 : bf3.getD (p3 + 1) 0 = x1 := byte_at hb3 1 (by simp) rfl
  have h1 := x1.toNat_lt
  have M := q86 z g o3 r3 l3 (p3 + 2) bf3 dat ⟨rfl, trivial⟩
  have N := notStr 217 (by decide) (by decide)
  have K := trivial
  rcases Nat.eq_zero_or_pos tx.length with h0 | h0
  · obtain rfl := List.eq_nil_of_length_eq_zero h0
    obtain ⟨o4, r4, l4, p4, bf4, S4, C4⟩ := emptyO (t := t) S3
    refine ⟨o4, r4, l4, p4, bf4, S4, ?_⟩
    have hx : (bf3.getD (p3 + 1) 0).toNat = 0 := by rw [b1]; simpa using hb
    have d1 := trivial
    have d2 := trivial
    refine (tsOz1 z g o r l p o2 r2 l2 p2 o3 r3 l3 p3 (p3 + 2) o4 r4 l4 p4 bf bf2 bf3 bf4 dat ?_).le (leAll_refl _) Le_tz rfl
    have w0 : IntKind.i64.wrap (((bf3.getD (p3 + 1) 0).toNat : Nat) : Int) = 0 := by rw [hx]; rfl
    simp only [AllP, leAll, hx, w0]
    repeat' (first | exact trivial | exact rfl | exact C2 | exact C3 | exact C4 | exact M | exact N | exact K | exact d1 | exact d2 | exact Le.refl _ | exact RowLe.refl _ | omega | decide | with_reducible apply And.intro)
  · have w1 : IntKind.i64.wrap (tx.length : Int) = tx.length := wrap64 (by omega) (by omega)
    have w2 : IntKind.u64.wrap (tx.length : Int) = tx.length := by rw [wrapU64]; omega
    have d1 : decide ((0 : Int) < (tx.length : Int)) = true := by simp; omega
    have d2 : decide ((tx.length : Int) > 1048576) = false := by simp; omega
    obtain ⟨o4, r4, l4, p4, bf4, S4, C4⟩ := fullO (a := tx) (t := t) S3 tx.length rfl (List.replicate tx.length 0) (by simp)
    refine ⟨o4, r4, l4, p4, bf4, S4, ?_⟩
    have hx : (bf3.getD (p3 + 1) 0).toNat = tx.length := by rw [b1]; exact hb
    have e := tsOt1 z g o r l p o2 r2 l2 p2 o3 r3 l3 p3 (p3 + 2) o4 r4 l4 p4 bf bf2 bf3 bf4 dat tx (by
      simp only [AllP, leAll, hx, w1, w2, Int.toNat_natCast]
      repeat' (first | exact trivial | exact rfl | exact C2 | exact C3 | exact C4 | exact M | exact N | exact K | exact d1 | exact d2 | exact Le.refl _ | exact RowLe.refl _ | omega | decide | with_reducible apply And.intro))
    rw [hx, w1, Int.toNat_natCast] at e
    refine ((e.freezeRet 5 rfl rfl).only [0, 1, 2, 3, 4, 6, 7] rfl).cast rfl rfl ?_ rfl
    simp [AV.frz, AV.frzL, frzOwn, AV.ren, AV.renL]

theorem text2O (x1 x2 : UInt8) (tx : List UInt8) (hb : x1.toNat * 256 + x2.toNat = tx.length) (hn : tx.length ≤ 65536) : GetsTO ([218, x1, x2] ++ tx) tx := fun T z g o r l p bf dat t S => by
  obtain ⟨o2, r2, l2, p2, bf2, S2, C2⟩ := peekO (b := 218) (t := x1 :: x2 :: (tx ++ t)) S
  obtain ⟨o3, r3, l3, p3, bf3, S3, hb3, hlen, C3⟩ := nextO (a := [218, x1, x2]) (t := tx ++ t) S2 3 rfl
  have b1 : bf3.getD (p3 + 1) 0 = x1 := byte_at hb3 1 (by simp) rfl
  have h1 := x1.toNat_lt
  have b2 : bf3.getD (p3 + 2) 0 = x2 := byte_at hb3 2 (by simp) rfl
  have h2 := x2.toNat_lt
  have M := q86 z g o3 r3 l3 (p3 + 3) bf3 dat ⟨rfl, trivial⟩
  have N := notStr 218 (by decide) (by decide)
  have K := be2A noG bf3 (p3 + 1) (by omega)
  have hv : beN bf3 (p3 + 1) 2 = tx.length := by
    simp only [beN, Nat.add_zero, show p3 + 1 + 1 = p3 + 2 by omega]
    rw [b1, b2]
    omega
  rw [hv] at K
  rcases Nat.eq_zero_or_pos tx.length with h0 | h0
  · obtain rfl := List.eq_nil_of_length_eq_zero h0
    obtain ⟨o4, r4, l4, p4, bf4, S4, C4⟩ := emptyO (t := t) S3
    refine ⟨o4, r4, l4, p4, bf4, S4, ?_⟩
    have d1 := trivial
    have d2 := trivial
    simp only [List.length_nil] at K
    refine (tsOz2 z g o r l p o2 r2 l2 p2 o3 r3 l3 p3 (p3 + 3) o4 r4 l4 p4 bf bf2 bf3 bf4 dat ?_).le (leAll_refl _) Le_tz rfl
    simp only [AllP, leAll]
    repeat' (first | exact trivial | exact rfl | exact C2 | exact C3 | exact C4 | exact M | exact N | exact K | exact d1 | exact d2 | exact Le.refl _ | exact RowLe.refl _ | omega | decide | with_reducible apply And.intro)
  · have w1 : IntKind.i64.wrap (tx.length : Int) = tx.length := wrap64 (by omega) (by omega)
    have w2 : IntKind.u64.wrap (tx.length : Int) = tx.length := by rw [wrapU64]; omega
    have d1 : decide ((0 : Int) < (tx.length : Int)) = true := by simp; omega
    have d2 : decide ((tx.length : Int) > 1048576) = false := by simp; omega
    obtain ⟨o4, r4, l4, p4, bf4, S4, C4⟩ := fullO (a := tx) (t := t) S3 tx.length rfl (List.replicate tx.length 0) (by simp)
    refine ⟨o4, r4, l4, p4, bf4, S4, ?_⟩
    have e := tsOt2 z g o r l p o2 r2 l2 p2 o3 r3 l3 p3 (p3 + 3) o4 r4 l4 p4 bf bf2 bf3 bf4 dat tx.length tx (by
      simp only [AllP, leAll, w1, w2, Int.toNat_natCast]
      repeat' (first | exact trivial | exact rfl | exact C2 | exact C3 | exact C4 | exact M | exact N | exact K | exact d1 | exact d2 | exact Le.refl _ | exact RowLe.refl _ | omega | decide | with_reducible apply And.intro))
    rw [w1, Int.toNat_natCast] at e
    refine ((e.freezeRet 5 rfl rfl).only [0, 1, 2, 3, 4, 6, 7] rfl).cast rfl rfl ?_ rfl
    simp [AV.frz, AV.frzL, frzOwn, AV.ren, AV.renL]

theorem text3O (x1 x2 x3 x4 : UInt8) (tx : List UInt8) (hb : ((x1.toNat * 256 + x2.toNat) * 256 + x3.toNat) * 256 + x4.toNat = tx.length) (hn : tx.length ≤ 65536) : GetsTO ([219, x1, x2, x3, x4] ++ tx) tx := fun T z g o r l p bf dat t S => by
  obtain ⟨o2, r2, l2, p2, bf2, S2, C2⟩ := peekO (b := 219) (t := x1 :: x2 :: x3 :: x4 :: (tx ++ t)) S
  obtain ⟨o3, r3, l3, p3, bf3, S3, hb3, hlen, C3⟩ := nextO (a := [219, x1, x2, x3, x4]) (t := tx ++ t) S2 5 rfl
  have b1 : bf3.getD (p3 + 1) 0 = x1 := byte_at hb3 1 (by simp) rfl
  have h1 := x1.toNat_lt
  have b2 : bf3.getD (p3 + 2) 0 = x2 := byte_at hb3 2 (by simp) rfl
  have h2 := x2.toNat_lt
  have b3 : bf3.getD (p3 + 3) 0 = x3 := byte_at hb3 3 (by simp) rfl
  have h3 := x3.toNat_lt
  have b4 : bf3.getD (p3 + 4) 0 = x4 := byte_at hb3 4 (by simp) rfl
  have h4 := x4.toNat_lt
  have M := q86 z g o3 r3 l3 (p3 + 5) bf3 dat ⟨rfl, trivial⟩
  have N := notStr 219 (by decide) (by decide)
  have K := be4A noG bf3 (p3 + 1) (by omega)
  have hv : beN bf3 (p3 + 1) 4 = tx.length := by
    simp only [beN, Nat.add_zero, show p3 + 1 + 1 = p3 + 2 by omega, show p3 + 1 + 2 = p3 + 3 by omega, show p3 + 1 + 3 = p3 + 4 by omega]
    rw [b1, b2, b3, b4]
    omega
  rw [hv] at K
  rcases Nat.eq_zero_or_pos tx.length with h0 | h0
  · obtain rfl := List.eq_nil_of_length_eq_zero h0
    obtain ⟨o4, r4, l4, p4, bf4, S4, C4⟩ := emptyO (t := t) S3
    refine ⟨o4, r4, l4, p4, bf4, S4, ?_⟩
    have d1 := trivial
    have d2 := trivial
    simp only [List.length_nil] at K
    refine (tsOz3 z g o r l p o2 r2 l2 p2 o3 r3 l3 p3 (p3 + 5) o4 r4 l4 p4 bf bf2 bf3 bf4 dat ?_).le (leAll_refl _) Le_tz rfl
    simp only [AllP, leAll]
    repeat' (first | exact trivial | exact rfl | exact C2 | exact C3 | exact C4 | exact M | exact N | exact K | exact d1 | exact d2 | exact Le.refl _ | exact RowLe.refl _ | omega | decide | with_reducible apply And.intro)
  · have w1 : IntKind.i64.wrap (tx.length : Int) = tx.length := wrap64 (by omega) (by omega)
    have w2 : IntKind.u64.wrap (tx.length : Int) = tx.length := by rw [wrapU64]; omega
    have d1 : decide ((0 : Int) < (tx.length : Int)) = true := by simp; omega
    have d2 : decide ((tx.length : Int) > 1048576) = false := by simp; omega
    obtain ⟨o4, r4, l4, p4, bf4, S4, C4⟩ := fullO (a := tx) (t := t) S3 tx.length rfl (List.replicate tx.length 0) (by simp)
    refine ⟨o4, r4, l4, p4, bf4, S4, ?_⟩
    have e := tsOt3 z g o r l p o2 r2 l2 p2 o3 r3 l3 p3 (p3 + 5) o4 r4 l4 p4 bf bf2 bf3 bf4 dat tx.length tx (by
      simp only [AllP, leAll, w1, w2, Int.toNat_natCast]
      repeat' (first | exact trivial | exact rfl | exact C2 | exact C3 | exact C4 | exact M | exact N | exact K | exact d1 | exact d2 | exact Le.refl _ | exact RowLe.refl _ | omega | decide | with_reducible apply And.intro))
    rw [w1, Int.toNat_natCast] at e
    refine ((e.freezeRet 5 rfl rfl).only [0, 1, 2, 3, 4, 6, 7] rfl).cast rfl rfl ?_ rfl
    simp [AV.frz, AV.frzL, frzOwn, AV.ren, AV.renL]

theorem text0N (b : UInt8) (tx : List UInt8) (hb : b.toNat = 160 + tx.length) (hn : tx.length < 32) : GetsTN ([b] ++ tx) tx := fun T z g t hT hT2 hz hg => by
  obtain ⟨o2, r2, l2, p2, bf2, S2, C2⟩ := peekN T z g b ((tx ++ t)) hT hT2 hz hg
  obtain ⟨o3, r3, l3, q3, bf3, S3, C3⟩ := skipO (a := [b]) (t := tx ++ t) S2 1 rfl
  have p3 := 0
  have M := q86 z g o3 r3 l3 q3 bf3 (([b] ++ tx) ++ t) ⟨rfl, trivial⟩
  have N := isStr b (by omega)
  have K := rStr b
  rw [show b.toNat % 32 = tx.length by omega] at K
  rcases Nat.eq_zero_or_pos tx.length with h0 | h0
  · obtain rfl := List.eq_nil_of_length_eq_zero h0
    obtain ⟨o4, r4, l4, p4, bf4, S4, C4⟩ := emptyO (t := t) S3
    refine ⟨o4, r4, l4, p4, bf4, S4, ?_⟩
    have d1 := trivial
    have d2 := trivial
    simp only [List.length_nil] at K
    refine (tsNz0 z g 0 (([b] ++ []) ++ t).length o2 r2 l2 p2 o3 r3 l3 0 q3 o4 r4 l4 p4 bf2 bf3 bf4 (([b] ++ []) ++ t) b ?_).le (leAll_refl _) Le_tz rfl
    simp only [AllP, leAll]
    repeat' (first | exact trivial | exact rfl | exact C2 | exact C3 | exact C4 | exact M | exact N | exact K | exact d1 | exact d2 | exact Le.refl _ | exact RowLe.refl _ | omega | decide | with_reducible apply And.intro)
  · have w1 : IntKind.i64.wrap (tx.length : Int) = tx.length := wrap64 (by omega) (by omega)
    have w2 : IntKind.u64.wrap (tx.length : Int) = tx.length := by rw [wrapU64]; omega
    have d1 : decide ((0 : Int) < (tx.length : Int)) = true := by simp; omega
    have d2 : decide ((tx.length : Int) > 1048576) = false := by simp; omega
    obtain ⟨o4, r4, l4, p4, bf4, S4, C4⟩ := fullO (a := tx) (t := t) S3 tx.length rfl (List.replicate tx.length 0) (by simp)
    refine ⟨o4, r4, l4, p4, bf4, S4, ?_⟩
    have e := tsNt0 z g 0 (([b] ++ tx) ++ t).length o2 r2 l2 p2 o3 r3 l3 0 q3 o4 r4 l4 p4 bf2 bf3 bf4 (([b] ++ tx) ++ t) b tx.length tx (by
      simp only [AllP, leAll, w1, w2, Int.toNat_natCast]
      repeat' (first | exact trivial | exact rfl | exact C2 | exact C3 | exact C4 | exact M | exact N | exact K | exact d1 | exact d2 | exact Le.refl _ | exact RowLe.refl _ | omega | decide | with_reducible apply And.intro))
    rw [w1, Int.toNat_natCast] at e
    refine ((e.freezeRet 4 rfl rfl).only [0, 1, 2, 3, 5, 6] rfl).cast rfl rfl ?_ rfl
    simp [AV.frz, AV.frzL, frzOwn, AV.ren, AV.renL]

theorem text1N (x1 : UInt8) (tx : List UInt8) (hb : x1.toNat = tx.length) (hn : tx.length ≤ 65536) : GetsTN ([217, x1] ++ tx) tx := fun T z g t hT hT2 hz hg => by
  obtain ⟨o2, r2, l2, p2, bf2, S2, C2⟩ := peekN T z g 217 (x1 :: (tx ++ t)) hT hT2 hz hg
  obtain ⟨o3, r3, l3, p3, bf3, S3, hb3, hlen, C3⟩ := nextO (a := [217, x1]) (t := tx ++ t) S2 2 rfl
  have b1 : bf3.getD (p3 + 1) 0 = x1 := byte_at hb3 1 (by simp) rfl
  have h1 := x1.toNat_lt
  have M := q86 z g o3 r3 l3 (p3 + 2) bf3 (([217, x1] ++ tx) ++ t) ⟨rfl, trivial⟩
  have N := notStr 217 (by decide) (by decide)
  have K := trivial
  rcases Nat.eq_zero_or_pos tx.length with h0 | h0
  · obtain rfl := List.eq_nil_of_length_eq_zero h0
    obtain ⟨o4, r4, l4, p4, bf4, S4, C4⟩ := emptyO (t := t) S3
    refine ⟨o4, r4, l4, p4, bf4, S4, ?_⟩
    have hx : (bf3.getD (p3 + 1) 0).toNat = 0 := by rw [b1]; simpa using hb
    have d1 := trivial
    have d2 := trivial
    refine (tsNz1 z g 0 (([217, x1] ++ []) ++ t).length o2 r2 l2 p2 o3 r3 l3 p3 (p3 + 2) o4 r4 l4 p4 bf2 bf3 bf4 (([217, x1] ++ []) ++ t) ?_).le (leAll_refl _) Le_tz rfl
    have w0 : IntKind.i64.wrap (((bf3.getD (p3 + 1) 0).toNat : Nat) : Int) = 0 := by rw [hx]; rfl
    simp only [AllP, leAll, hx, w0]
    repeat' (first | exact trivial | exact rfl | exact C2 | exact C3 | exact C4 | exact M | exact N | exact K | exact d1 | exact d2 | exact Le.refl _ | exact RowLe.refl _ | omega | decide | with_reducible apply And.intro)
  · have w1 : IntKind.i64.wrap (tx.length : Int) = tx.length := wrap64 (by omega) (by omega)
    have w2 : IntKind.u64.wrap (tx.length : Int) = tx.length := by rw [wrapU64]; omega
    have d1 : decide ((0 : Int) < (tx.length : Int)) = true := by simp; omega
    have d2 : decide ((tx.length : Int) > 1048576) = false := by simp; omega
    obtain ⟨o4, r4, l4, p4, bf4, S4, C4⟩ := fullO (a := tx) (t := t) S3 tx.length rfl (List.replicate tx.length 0) (by simp)
    refine ⟨o4, r4, l4, p4, bf4, S4, ?_⟩
    have hx : (bf3.getD (p3 + 1) 0).toNat = tx.length := by rw [b1]; exact hb
    have e := tsNt1 z g 0 (([217, x1] ++ tx) ++ t).length o2 r2 l2 p2 o3 r3 l3 p3 (p3 + 2) o4 r4 l4 p4 bf2 bf3 bf4 (([217, x1] ++ tx) ++ t) tx (by
      simp only [AllP, leAll, hx, w1, w2, Int.toNat_natCast]
      repeat' (first | exact trivial | exact rfl | exact C2 | exact C3 | exact C4 | exact M | exact N | exact K | exact d1 | exact d2 | exact Le.refl _ | exact RowLe.refl _ | omega | decide | with_reducible apply And.intro))
    rw [hx, w1, Int.toNat_natCast] at e
    refine ((e.freezeRet 4 rfl rfl).only [0, 1, 2, 3, 5, 6] rfl).cast rfl rfl ?_ rfl
    simp [AV.frz, AV.frzL, frzOwn, AV.ren, AV.renL]

theorem text2N (x1 x2 : UInt8) (tx : List UInt8) (hb : x1.toNat * 256 + x2.toNat = tx.length) (hn : tx.length ≤ 65536) : GetsTN ([218, x1, x2] ++ tx) tx := fun T z g t hT hT2 hz hg => by
  obtain ⟨o2, r2, l2, p2, bf2, S2, C2⟩ := peekN T z g 218 (x1 :: x2 :: (tx ++ t)) hT hT2 hz hg
  obtain ⟨o3, r3, l3, p3, bf3, S3, hb3, hlen, C3⟩ := nextO (a := [218, x1, x2]) (t := tx ++ t) S2 3 rfl
  have b1 : bf3.getD (p3 + 1) 0 = x1 := byte_at hb3 1 (by simp) rfl
  have h1 := x1.toNat_lt
  have b2 : bf3.getD (p3 + 2) 0 = x2 := byte_at hb3 2 (by simp) rfl
  have h2 := x2.toNat_lt
  have M := q86 z g o3 r3 l3 (p3 + 3) bf3 (([218, x1, x2] ++ tx) ++ t) ⟨rfl, trivial⟩
  have N := notStr 218 (by decide) (by decide)
  have K := be2A noG bf3 (p3 + 1) (by omega)
  have hv : beN bf3 (p3 + 1) 2 = tx.length := by
    simp only [beN, Nat.add_zero, show p3 + 1 + 1 = p3 + 2 by omega]
    rw [b1, b2]
    omega
  rw [hv] at K
  rcases Nat.eq_zero_or_pos tx.length with h0 | h0
  · obtain rfl := List.eq_nil_of_length_eq_zero h0
    obtain ⟨o4, r4, l4, p4, bf4, S4, C4⟩ := emptyO (t := t) S3
    refine ⟨o4, r4, l4, p4, bf4, S4, ?_⟩
    have d1 := trivial
    have d2 := trivial
    simp only [List.length_nil] at K
    refine (tsNz2 z g 0 (([218, x1, x2] ++ []) ++ t).length o2 r2 l2 p2 o3 r3 l3 p3 (p3 + 3) o4 r4 l4 p4 bf2 bf3 bf4 (([218, x1, x2] ++ []) ++ t) ?_).le (leAll_refl _) Le_tz rfl
    simp only [AllP, leAll]
    repeat' (first | exact trivial | exact rfl | exact C2 | exact C3 | exact C4 | exact M | exact N | exact K | exact d1 | exact d2 | exact Le.refl _ | exact RowLe.refl _ | omega | decide | with_reducible apply And.intro)
  · have w1 : IntKind.i64.wrap (tx.length : Int) = tx.length := wrap64 (by omega) (by omega)
    have w2 : IntKind.u64.wrap (tx.length : Int) = tx.length := by rw [wrapU64]; omega
    have d1 : decide ((0 : Int) < (tx.length : Int)) = true := by simp; omega
    have d2 : decide ((tx.length : Int) > 1048576) = false := by simp; omega
    obtain ⟨o4, r4, l4, p4, bf4, S4, C4⟩ := fullO (a := tx) (t := t) S3 tx.length rfl (List.replicate tx.length 0) (by simp)
    refine ⟨o4, r4, l4, p4, bf4, S4, ?_⟩
    have e := tsNt2 z g 0 (([218, x1, x2] ++ tx) ++ t).length o2 r2 l2 p2 o3 r3 l3 p3 (p3 + 3) o4 r4 l4 p4 bf2 bf3 bf4 (([218, x1, x2] ++ tx) ++ t) tx.length tx (by
      simp only [AllP, leAll, w1, w2, Int.toNat_natCast]
      repeat' (first | exact trivial | exact rfl | exact C2 | exact C3 | exact C4 | exact M | exact N | exact K | exact d1 | exact d2 | exact Le.refl _ | exact RowLe.refl _ | omega | decide | with_reducible apply And.intro))
    rw [w1, Int.toNat_natCast] at e
    refine ((e.freezeRet 4 rfl rfl).only [0, 1, 2, 3, 5, 6] rfl).cast rfl rfl ?_ rfl
    simp [AV.frz, AV.frzL, frzOwn, AV.ren, AV.renL]

theorem text3N (x1 x2 x3 x4 : UInt8) (tx : List UInt8) (hb : ((x1.toNat * 256 + x2.toNat) * 256 + x3.toNat) * 256 + x4.toNat = tx.length) (hn : tx.length ≤ 65536) : GetsTN ([219, x1, x2, x3, x4] ++ tx) tx := fun T z g t hT hT2 hz hg => by
  obtain ⟨o2, r2, l2, p2, bf2, S2, C2⟩ := peekN T z g 219 (x1 :: x2 :: x3 :: x4 :: (tx ++ t)) hT hT2 hz hg
  obtain ⟨o3, r3, l3, p3, bf3, S3, hb3, hlen, C3⟩ := nextO (a := [219, x1, x2, x3, x4]) (t := tx ++ t) S2 5 rfl
  have b1 : bf3.getD (p3 + 1) 0 = x1 := byte_at hb3 1 (by simp) rfl
  have h1 := x1.toNat_lt
  have b2 : bf3.getD (p3 + 2) 0 = x2 := byte_at hb3 2 (by simp) rfl
  have h2 := x2.toNat_lt
  have b3 : bf3.getD (p3 + 3) 0 = x3 := byte_at hb3 3 (by simp) rfl
  have h3 := x3.toNat_lt
  have b4 : bf3.getD (p3 + 4) 0 = x4 := byte_at hb3 4 (by simp) rfl
  have h4 := x4.toNat_lt
  have M := q86 z g o3 r3 l3 (p3 + 5) bf3 (([219, x1, x2, x3, x4] ++ tx) ++ t) ⟨rfl, trivial⟩
  have N := notStr 219 (by decide) (by decide)
  have K := be4A noG bf3 (p3 + 1) (by omega)
  have hv : beN bf3 (p3 + 1) 4 = tx.length := by
    simp only [beN, Nat.add_zero, show p3 + 1 + 1 = p3 + 2 by omega, show p3 + 1 + 2 = p3 + 3 by omega, show p3 + 1 + 3 = p3 + 4 by omega]
    rw [b1, b2, b3, b4]
    omega
  rw [hv] at K
  rcases Nat.eq_zero_or_pos tx.length with h0 | h0
  · obtain rfl := List.eq_nil_of_length_eq_zero h0
    obtain ⟨o4, r4, l4, p4, bf4, S4, C4⟩ := emptyO (t := t) S3
    refine ⟨o4, r4, l4, p4, bf4, S4, ?_⟩
    have d1 := trivial
    have d2 := trivial
    simp only [List.length_nil] at K
    refine (tsNz3 z g 0 (([219, x1, x2, x3, x4] ++ []) ++ t).length o2 r2 l2 p2 o3 r3 l3 p3 (p3 + 5) o4 r4 l4 p4 bf2 bf3 bf4 (([219, x1, x2, x3, x4] ++ []) ++ t) ?_).le (leAll_refl _) Le_tz rfl
    simp only [AllP, leAll]
    repeat' (first | exact trivial | exact rfl | exact C2 | exact C3 | exact C4 | exact M | exact N | exact K | exact d1 | exact d2 | exact Le.refl _ | exact RowLe.refl _ | omega | decide | with_reducible apply And.intro)
  · have w1 : IntKind.i64.wrap (tx.length : Int) = tx.length := wrap64 (by omega) (by omega)
    have w2 : IntKind.u64.wrap (tx.length : Int) = tx.length := by rw [wrapU64]; omega
    have d1 : decide ((0 : Int) < (tx.length : Int)) = true := by simp; omega
    have d2 : decide ((tx.length : Int) > 1048576) = false := by simp; omega
    obtain ⟨o4, r4, l4, p4, bf4, S4, C4⟩ := fullO (a := tx) (t := t) S3 tx.length rfl (List.replicate tx.length 0) (by simp)
    refine ⟨o4, r4, l4, p4, bf4, S4, ?_⟩
    have e := tsNt3 z g 0 (([219, x1, x2, x3, x4] ++ tx) ++ t).length o2 r2 l2 p2 o3 r3 l3 p3 (p3 + 5) o4 r4 l4 p4 bf2 bf3 bf4 (([219, x1, x2, x3, x4] ++ tx) ++ t) tx.length tx (by
      simp only [AllP, leAll, w1, w2, Int.toNat_natCast]
      repeat' (first | exact trivial | exact rfl | exact C2 | exact C3 | exact C4 | exact M | exact N | exact K | exact d1 | exact d2 | exact Le.refl _ | exact RowLe.refl _ | omega | decide | with_reducible apply And.intro))
    rw [w1, Int.toNat_natCast] at e
    refine ((e.freezeRet 4 rfl rfl).only [0, 1, 2, 3, 5, 6] rfl).cast rfl rfl ?_ rfl
    simp [AV.frz, AV.frzL, frzOwn, AV.ren, AV.renL]

/-- A text, whatever its head. -/
theorem orB160 : ∀ n : Fin 32, orB 160 (n.val : Int) = UInt8.ofNat (160 + n.val) := by decide
theorem readText (tx h : List UInt8) (hn : tx.length ≤ 65536) (hh : HeadOut tx.length 160 32 [(217, 1), (218, 2), (219, 4)] h) : GetsTO (h ++ tx) tx ∧ GetsTN (h ++ tx) tx := by
  rcases hh with ⟨_, hlt, rfl⟩ | ⟨p, hp, rfl⟩
  · have hb : (orB 160 (tx.length : Int)).toNat = 160 + tx.length := by
      have := orB160 ⟨tx.length, by omega⟩
      simp only at this
      rw [this, UInt8.toNat_ofNat']; omega
    exact ⟨text0O _ tx hb (by omega), text0N _ tx hb (by omega)⟩
  · obtain ⟨hm, hf⟩ := List.mem_filter.1 hp
    have h0 : (0 : Int) ≤ tx.length := by omega
    simp at hm
    rcases hm with rfl | rfl | rfl
    · have hlt : (tx.length : Int) < 256 := by have := fitB_lt (by decide) hf; simpa using this
      have hh : headL 217 1 tx.length = 217 :: bigL tx.length 1 := rfl
      have hb : (byteI (tx.length : Int)).toNat = tx.length := by rw [byteI_nat]; omega
      rw [hh, bigL1]
      exact ⟨text1O _ tx hb hn, text1N _ tx hb hn⟩
    · have hlt : (tx.length : Int) < 65536 := by have := fitB_lt (by decide) hf; simpa using this
      have hh : headL 218 2 tx.length = 218 :: bigL tx.length 2 := rfl
      have hb : (byteI ((tx.length : Int) / 256)).toNat * 256 + (byteI (tx.length : Int)).toNat = tx.length := by have := vb2 tx.length h0; omega
      rw [hh, bigL2]
      exact ⟨text2O _ _ tx hb hn, text2N _ _ tx hb hn⟩
    · have hh : headL 219 4 tx.length = 219 :: bigL tx.length 4 := rfl
      have hb : (((byteI ((tx.length : Int) / 16777216)).toNat * 256 + (byteI ((tx.length : Int) / 65536)).toNat) * 256 + (byteI ((tx.length : Int) / 256)).toNat) * 256 + (byteI (tx.length : Int)).toNat = tx.length := by have := vb4 tx.length h0; omega
      rw [hh, bigL4]
      exact ⟨text3O _ _ _ _ tx hb hn, text3N _ _ _ _ tx hb hn⟩
end Go.Ax
