/-
  A stream's source: Next, Skip, Peek, PeekByte, by contracts.
-/
import Derived.Test.YtkbmfpkbegjhcaaDoorSm4
set_option linter.unusedVariables false
set_option linter.unusedSimpArgs false
set_option maxRecDepth 100000
namespace Go.Ax
open Go.Proofs

/-- A reader over such a source: without a buffer, with one, told behind what came in. -/
abbrev rdrR (mx ms : Int) : Row := .cells 135 6 [.ptr 1 0, nL, iL 0, iL 0, .lit (.int .u32 mx), uL ms]
abbrev rowsRN (z g o r : Nat) (dat : List UInt8) : List Row := [rdrR 1048576 1048576, .cells 212 5 [.ifc 203 (.ptr 2 0), nL, iL 0, iL z, nI], drpR 3 o r g, .bytes 5 dat]
abbrev rowsRO (z g o r l p : Nat) (bf dat : List UInt8) : List Row := [rdrR 1048576 1048576, .cells 212 5 [.ifc 203 (.ptr 2 0), .own 3 0 l (some bf.length), iL p, iL z, nI], drpR 4 o r g, .bytes 5 bf, .bytes 5 dat]
abbrev rowsRP (z g o r l p : Nat) (bf dat : List UInt8) : List Row := [rdrR 1048576 1048576, .cells 212 5 [.ifc 203 (.ptr 2 0), .own 5 0 l (some bf.length), iL p, iL z, nI], drpR 6 o r g, .gone, .gone, .bytes 5 bf, .bytes 5 dat]
abbrev rowsRQ (z g o r l p : Nat) (bf dat : List UInt8) : List Row := [rdrR 1048576 1048576, .cells 212 5 [.ifc 203 (.ptr 2 0), .own 4 0 l (some bf.length), iL p, iL z, nI], drpR 5 o r g, .gone, .bytes 5 bf, .bytes 5 dat]

/-- What lies at the place is what comes next. -/
theorem Held.at {T z g o r l p : Nat} {bf dat a t : List UInt8} (S : Held T z g o r l p bf dat (a ++ t)) (n : Nat) (ha : a.length = n) (hn : n ≤ l - p) : (bf.drop p).take n = a := by
  have hs := S.hs
  have hl := S.hl
  have h1 : List.take n ((bf.take l).drop p ++ dat.drop o) = List.take n (a ++ t) := by rw [hs]
  rw [List.take_append_of_le_length (by simp; omega), List.take_append_of_le_length (by omega), List.take_of_length_le (l := a) (by omega)] at h1
  rw [← h1, List.drop_take, List.take_take, Nat.min_eq_left (by omega)]

theorem Held.adv {T z g o r l p : Nat} {bf dat a t : List UInt8} (S : Held T z g o r l p bf dat (a ++ t)) (n : Nat) (ha : a.length = n) (hn : n ≤ l - p) : Held T z g o r l (p + n) bf dat t := by
  have hl := S.hl
  have hp := S.hp
  refine ⟨by have := S.hT; simp at this; omega, S.hT2, S.hz, S.hg, S.hr, S.hd, by omega, hl, S.hb, ?_⟩
  have h1 : List.drop n ((bf.take l).drop p ++ dat.drop o) = List.drop n (a ++ t) := by rw [S.hs]
  rw [List.drop_append_of_le_length (by simp; omega), List.drop_append_of_le_length (by omega), List.drop_of_length_le (l := a) (by omega), List.nil_append, List.drop_drop] at h1
  exact h1

theorem nextO {T z g o r l p : Nat} {bf dat a t : List UInt8} (S : Held T z g o r l p bf dat (a ++ t)) (n : Nat) (ha : a.length = n) :
    ∃ o2 r2 l2 p2 bf2, Held T z g o2 r2 l2 (p2 + n) bf2 dat t ∧ (bf2.drop p2).take n = a ∧ p2 + n ≤ bf2.length ∧
      A0 82 [.ptr 0 0, iL n] (rowsO z g o r l p bf dat) (.tup [.own 4 p2 n none, nI]) (rowsP z g o2 r2 l2 (p2 + n) bf2 dat) := by
  obtain ⟨o2, r2, l2, p2, bf2, S2, h2, C⟩ := moreO S n (by simp; omega)
  have b1 := S2.hT
  have b2 := S2.hT2
  have b3 := S2.hz
  have b4 := S2.hl
  have b5 := S2.hb
  have b9 := S2.hp
  refine ⟨o2, r2, l2, p2, bf2, S2.adv n ha h2, S2.at n ha h2, by omega, ?_⟩
  have w1 : IntKind.i64.wrap ((l2 : Int) - p2) = ((l2 - p2 : Nat) : Int) := by rw [wrap64 (by omega) (by omega)]; omega
  have w2 : IntKind.i64.wrap ((p2 : Int) + n) = ((p2 + n : Nat) : Int) := by rw [wrap64 (by omega) (by omega)]; omega
  have d1 : decide (((l2 - p2 : Nat) : Int) < (n : Int)) = false := by simp; omega
  have e := nxt z g o r l p o2 r2 l2 p2 bf bf2 dat n (by
    simp only [AllP, leAll, w1, w2, d1, Int.toNat_natCast, Nat.mul_one, Nat.zero_add]
    exact ⟨by omega, ⟨by omega, by omega, .inl (by omega)⟩, trivial, C, ⟨Le.refl _, Le.refl _, trivial⟩, ⟨RowLe.refl _, RowLe.refl _, RowLe.refl _, RowLe.refl _, trivial⟩, trivial⟩)
  simp only [w2, Int.toNat_natCast, Nat.mul_one, Nat.zero_add, Nat.add_sub_cancel_left] at e
  refine e.le (leAll_refl _) ?_ rfl
  intro ρ h O w v hv
  cases hv with
  | dr hd => cases hd
  | tup k1 k2 =>
    refine .tup k1 fun j a x ha hx => ?_
    match j with
    | 0 => simp at ha; subst ha; exact Le_cap _ _ _ _ _ _ _ _ _ (k2 0 _ x rfl hx)
    | 1 => simp at ha; subst ha; exact k2 1 _ x rfl hx
    | j + 2 => simp at ha

theorem skipO {T z g o r l p : Nat} {bf dat a t : List UInt8} (S : Held T z g o r l p bf dat (a ++ t)) (n : Nat) (ha : a.length = n) :
    ∃ o2 r2 l2 p2 bf2, Held T z g o2 r2 l2 p2 bf2 dat t ∧ A0 81 [.ptr 0 0, iL n] (rowsO z g o r l p bf dat) (.tup [iL n, nI]) (rowsP z g o2 r2 l2 p2 bf2 dat) := by
  obtain ⟨o2, r2, l2, p2, bf2, S2, h2, C⟩ := moreO S n (by simp; omega)
  have b1 := S2.hT
  have b2 := S2.hT2
  have b3 := S2.hz
  have b4 := S2.hl
  have b5 := S2.hb
  have b9 := S2.hp
  refine ⟨o2, r2, l2, p2 + n, bf2, S2.adv n ha h2, ?_⟩
  have w1 : IntKind.i64.wrap ((l2 : Int) - p2) = ((l2 - p2 : Nat) : Int) := by rw [wrap64 (by omega) (by omega)]; omega
  have w2 : IntKind.i64.wrap ((p2 : Int) + n) = ((p2 + n : Nat) : Int) := by rw [wrap64 (by omega) (by omega)]; omega
  have d1 : decide (((l2 - p2 : Nat) : Int) < (n : Int)) = false := by simp; omega
  refine (skp z g o r l p o2 r2 l2 p2 bf bf2 dat n ?_).cast rfl rfl rfl (by rw [w2])
  simp only [AllP, leAll, w1, d1]
  exact ⟨by omega, trivial, C, ⟨Le.refl _, Le.refl _, trivial⟩, ⟨RowLe.refl _, RowLe.refl _, RowLe.refl _, RowLe.refl _, trivial⟩, trivial⟩

theorem head_at {bf : List UInt8} {p : Nat} {b : UInt8} (h : (bf.drop p).take 1 = [b]) : bf.getD p 0 = b ∧ p < bf.length := by
  have h1 : (bf.drop p)[0]? = some b := by
    have := congrArg (fun l : List UInt8 => l[0]?) h
    simpa using this
  rw [List.getElem?_drop] at h1
  simp only [Nat.add_zero] at h1
  exact ⟨by simp [List.getD, h1], (List.getElem?_eq_some_iff.1 h1).1⟩

theorem peekO {T z g o r l p : Nat} {bf dat t : List UInt8} {b : UInt8} (S : Held T z g o r l p bf dat (b :: t)) :
    ∃ o2 r2 l2 p2 bf2, Held T z g o2 r2 l2 p2 bf2 dat (b :: t) ∧ A0 78 [.ptr 0 0] (rowsO z g o r l p bf dat) (.tup [u8 b, nI]) (rowsP z g o2 r2 l2 p2 bf2 dat) := by
  obtain ⟨o2, r2, l2, p2, bf2, S2, h2, C⟩ := moreO S 1 (by simp)
  have hh := head_at (Held.at (a := [b]) (t := t) S2 1 rfl h2)
  have b4 := S2.hl
  refine ⟨o2, r2, l2, p2, bf2, S2, ?_⟩
  have d1 : ((l2 : Int) == (p2 : Int)) = false := by simp; omega
  refine (pko z g o r l p o2 r2 l2 p2 bf bf2 dat ?_).cast rfl rfl ?_ rfl
  · simp only [AllP, leAll, d1, Int.toNat_natCast, Nat.mul_one, Nat.zero_add]
    exact ⟨by omega, ⟨by omega, by omega⟩, trivial, C, ⟨Le.refl _, Le.refl _, trivial⟩, ⟨RowLe.refl _, RowLe.refl _, RowLe.refl _, RowLe.refl _, trivial⟩, trivial⟩
  · simp only [Int.toNat_natCast, Nat.mul_one, Nat.zero_add, hh.1]; rfl

theorem peekN (T z g : Nat) (b : UInt8) (t : List UInt8) (hT : (b :: t).length ≤ T) (hT2 : T ≤ 1000000000000) (hz : 16 ≤ z ∧ z ≤ 65536) (hg : 1 ≤ g ∧ g ≤ 65536) :
    ∃ o2 r2 l2 p2 bf2, Held T z g o2 r2 l2 p2 bf2 (b :: t) (b :: t) ∧ A0 78 [.ptr 0 0] (rowsN z g 0 (b :: t).length (b :: t)) (.tup [u8 b, nI]) (rowsQ z g o2 r2 l2 p2 bf2 (b :: t)) := by
  obtain ⟨o2, r2, l2, p2, bf2, S2, h2, C⟩ := moreN T z g (b :: t) hT hT2 hz hg 1 (Nat.le_refl _) (by simp)
  have hh := head_at (Held.at (a := [b]) (t := t) S2 1 rfl h2)
  have b4 := S2.hl
  refine ⟨o2, r2, l2, p2, bf2, S2, ?_⟩
  have d1 : ((l2 : Int) == (p2 : Int)) = false := by simp; omega
  refine (pkn z g 0 (b :: t).length o2 r2 l2 p2 bf2 (b :: t) ?_).cast rfl rfl ?_ rfl
  · simp only [AllP, leAll, d1, Int.toNat_natCast, Nat.mul_one, Nat.zero_add]
    exact ⟨by omega, ⟨by omega, by omega⟩, trivial, C, ⟨Le.refl _, Le.refl _, trivial⟩, ⟨RowLe.refl _, RowLe.refl _, RowLe.refl _, trivial⟩, trivial⟩
  · simp only [Int.toNat_natCast, Nat.mul_one, Nat.zero_add, hh.1]; rfl
end Go.Ax
