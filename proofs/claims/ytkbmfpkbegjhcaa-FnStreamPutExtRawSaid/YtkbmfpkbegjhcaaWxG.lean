/-
  Extensions that are written by a Writer: their heads, their bytes.
-/
import Derived.Test.YtkbmfpkbegjhcaaWxE
import Derived.Test.YtkbmfpkbegjhcaaWxF
set_option linter.unusedVariables false
set_option linter.unusedSimpArgs false
set_option maxRecDepth 100000
namespace Go.Ax
open Go.Proofs

theorem take_set_succ (buf : List UInt8) (n : Nat) (x : UInt8) (h : n < buf.length) : (buf.set n x).take (n + 1) = buf.take n ++ [x] := by
  rw [List.take_add_one, List.take_set_of_le (Nat.le_refl n)]
  simp [h]
def setsL (buf : List UInt8) (q : Nat) : List UInt8 → List UInt8
  | [] => buf
  | x :: xs => setsL (buf.set q x) (q + 1) xs
theorem setsL_len : ∀ (xs : List UInt8) (buf : List UInt8) (q : Nat), (setsL buf q xs).length = buf.length
  | [], buf, q => rfl
  | x :: xs, buf, q => by simp [setsL, setsL_len xs]
theorem take_sets : ∀ (xs : List UInt8) (buf : List UInt8) (q : Nat), q + xs.length ≤ buf.length → (setsL buf q xs).take (q + xs.length) = buf.take q ++ xs
  | [], buf, q, h => by simp [setsL]
  | x :: xs, buf, q, h => by
    simp only [List.length_cons] at h
    have := take_sets xs (buf.set q x) (q + 1) (by simp; omega)
    simp only [setsL, List.length_cons]
    rw [show q + (xs.length + 1) = q + 1 + xs.length by omega, this, take_set_succ _ _ _ (by omega)]
    simp
theorem u8bound (x : Int) : 0 ≤ IntKind.u8.wrap x ∧ IntKind.u8.wrap x < 256 := by rw [wrapU8]; omega
theorem wq (q j : Nat) (h : q + j < 9223372036854775807) : IntKind.i64.wrap ((q : Int) + (j : Int)) = ((q + j : Nat) : Int) := by rw [wrap64 (by omega) (by omega)]; omega

/-- Room for so many bytes. -/
theorem reqN (N n m : Nat) (buf : List UInt8) (hm : m ≤ 18) (h18 : 18 ≤ N) (hN : N ≤ 65536) (hb : buf.length = N) (hn : n ≤ N) :
    ∃ o2 buf2 q, buf2.length = N ∧ q + m ≤ N ∧ cont o2 buf2 q = buf.take n ∧ ACalls Try.prog noG 38 [.ptr 0 0, iL m] (rN N n buf) (.tup [iL q, nilE]) (rS N (q + m) buf2 o2) := by
  have w : IntKind.i64.wrap ((N : Int) - n) = ((N - n : Nat) : Int) := by rw [wrap64 (by omega) (by omega)]; omega
  by_cases h : N - n < m
  · have f := flushN N n buf (by omega) hn hb (by simp [bigO]; omega)
    refine ⟨some (buf.take n), buf, 0, hb, by omega, by simp [cont], ?_⟩
    have e := rqNO N n m buf buf (buf.take n) (by
      have d : decide (((N - n : Nat) : Int) < (m : Int)) = true := by simp; omega
      simp only [AllP, leAll, w]
      repeat' (first | exact trivial | exact rfl | exact f | exact d | exact Le.refl _ | exact RowLe.refl _ | omega | with_reducible apply And.intro))
    have w2 : IntKind.i64.wrap ((0 : Int) + (m : Int)) = ((0 + m : Nat) : Int) := by rw [wrap64 (by omega) (by omega)]; omega
    rw [w2] at e
    exact e
  · refine ⟨none, buf, n, hb, by omega, by simp [cont], ?_⟩
    have e := rqN N n m buf (by
      have d : decide (((N - n : Nat) : Int) < (m : Int)) = false := by simp; omega
      simp only [AllP, w]
      exact ⟨by omega, d, trivial⟩)
    rw [wq n m (by omega)] at e
    exact e
theorem reqO (N n m : Nat) (buf out : List UInt8) (hm : m ≤ 18) (h18 : 18 ≤ N) (hN : N ≤ 65536) (hb : buf.length = N) (hn : n ≤ N) (ho : out.length ≤ bigO) :
    ∃ out2 buf2 q, buf2.length = N ∧ q + m ≤ N ∧ out2 ++ buf2.take q = out ++ buf.take n ∧ ACalls Try.prog noG 38 [.ptr 0 0, iL m] (rO N n buf out) (.tup [iL q, nilE]) (rM N (q + m) buf2 out2) := by
  have w : IntKind.i64.wrap ((N : Int) - n) = ((N - n : Nat) : Int) := by rw [wrap64 (by omega) (by omega)]; omega
  by_cases h : N - n < m
  · have f := flushO N n buf out (by omega) hn hb (by simp [bigO]; omega) ho
    refine ⟨out ++ buf.take n, buf, 0, hb, by omega, by simp, ?_⟩
    have e := rqOO N n m buf out buf (out ++ buf.take n) (by
      have d : decide (((N - n : Nat) : Int) < (m : Int)) = true := by simp; omega
      simp only [AllP, leAll, w]
      repeat' (first | exact trivial | exact rfl | exact f | exact d | exact Le.refl _ | exact RowLe.refl _ | omega | with_reducible apply And.intro))
    have w2 : IntKind.i64.wrap ((0 : Int) + (m : Int)) = ((0 + m : Nat) : Int) := by rw [wrap64 (by omega) (by omega)]; omega
    rw [w2] at e
    exact e
  · refine ⟨out, buf, n, hb, by omega, rfl, ?_⟩
    have e := rqO N n m buf out (by
      have d : decide (((N - n : Nat) : Int) < (m : Int)) = false := by simp; omega
      simp only [AllP, w]
      exact ⟨by omega, d, trivial⟩)
    rw [wq n m (by omega)] at e
    exact e.pack [some 0, some 1, some 2, none, some 3] rfl

/-! ### The heads -/
theorem head0 (k : Int) : Writes 30 [iL 0, .lit (.int .i8 k)] [199, 0, byteI k] := fun N n buf h18 hN hb hn => by
  refine ⟨?_, fun out ho => ?_⟩
  · obtain ⟨o2, buf2, q, b1, b2, b3, C⟩ := reqN N n 3 buf (by omega) h18 hN hb hn
    have w1 : IntKind.i64.wrap ((q : Int) + 1) = ((q + 1 : Nat) : Int) := wq q 1 (by omega)
    have w2 : IntKind.i64.wrap ((q : Int) + 2) = ((q + 2 : Nat) : Int) := wq q 2 (by omega)
    have ts := take_sets [199, 0, byteI k] buf2 q (by rw [b1]; exact b2)
    cases o2 with
    | none =>
      refine ⟨none, setsL buf2 q [199, 0, byteI k], q + 3, by rw [setsL_len, b1], b2, ?_, ?_⟩
      · simp only [cont, Option.getD_none, List.nil_append] at b3 ⊢
        rw [← b3]; exact ts
      · have e := henn0 N n (q + 3) buf buf2 q k (by
          simp only [AllP, w1, w2, Int.toNat_natCast]
          repeat' (first | exact trivial | omega | exact C | exact (u8bound _).1 | exact (u8bound _).2 | exact Le.refl _ | exact RowLe.refl _ | with_reducible apply And.intro | exact rfl))
        simp only [w1, w2, Int.toNat_natCast] at e
        exact e
    | some out1 =>
      refine ⟨some out1, setsL buf2 q [199, 0, byteI k], q + 3, by rw [setsL_len, b1], b2, ?_, ?_⟩
      · simp only [cont, Option.getD_some] at b3 ⊢
        rw [← b3, List.append_assoc]; exact congrArg (out1 ++ ·) ts
      · have e := heno0 N n (q + 3) buf buf2 out1 q k (by
          simp only [AllP, w1, w2, Int.toNat_natCast]
          repeat' (first | exact trivial | omega | exact C | exact (u8bound _).1 | exact (u8bound _).2 | exact Le.refl _ | exact RowLe.refl _ | with_reducible apply And.intro | exact rfl))
        simp only [w1, w2, Int.toNat_natCast] at e
        exact e
  · obtain ⟨out2, buf2, q, b1, b2, b3, C⟩ := reqO N n 3 buf out (by omega) h18 hN hb hn (by omega)
    have w1 : IntKind.i64.wrap ((q : Int) + 1) = ((q + 1 : Nat) : Int) := wq q 1 (by omega)
    have w2 : IntKind.i64.wrap ((q : Int) + 2) = ((q + 2 : Nat) : Int) := wq q 2 (by omega)
    have ts := take_sets [199, 0, byteI k] buf2 q (by rw [b1]; exact b2)
    refine ⟨out2, setsL buf2 q [199, 0, byteI k], q + 3, by rw [setsL_len, b1], b2, ?_, ?_⟩
    · rw [← b3, List.append_assoc]; exact congrArg (out2 ++ ·) ts
    · have e := heoo0 N n (q + 3) buf out buf2 out2 q k (by
        simp only [AllP, w1, w2, Int.toNat_natCast]
        repeat' (first | exact trivial | omega | exact C | exact (u8bound _).1 | exact (u8bound _).2 | exact Le.refl _ | exact RowLe.refl _ | with_reducible apply And.intro | exact rfl))
      simp only [w1, w2, Int.toNat_natCast] at e
      exact e

theorem head1 (k : Int) : Writes 30 [iL 1, .lit (.int .i8 k)] [212, byteI k] := fun N n buf h18 hN hb hn => by
  refine ⟨?_, fun out ho => ?_⟩
  · obtain ⟨o2, buf2, q, b1, b2, b3, C⟩ := reqN N n 2 buf (by omega) h18 hN hb hn
    have w1 : IntKind.i64.wrap ((q : Int) + 1) = ((q + 1 : Nat) : Int) := wq q 1 (by omega)
    have ts := take_sets [212, byteI k] buf2 q (by rw [b1]; exact b2)
    cases o2 with
    | none =>
      refine ⟨none, setsL buf2 q [212, byteI k], q + 2, by rw [setsL_len, b1], b2, ?_, ?_⟩
      · simp only [cont, Option.getD_none, List.nil_append] at b3 ⊢
        rw [← b3]; exact ts
      · have e := henn1 N n (q + 2) buf buf2 q k (by
          simp only [AllP, w1, Int.toNat_natCast]
          repeat' (first | exact trivial | omega | exact C | exact (u8bound _).1 | exact (u8bound _).2 | exact Le.refl _ | exact RowLe.refl _ | with_reducible apply And.intro | exact rfl))
        simp only [w1, Int.toNat_natCast] at e
        exact e
    | some out1 =>
      refine ⟨some out1, setsL buf2 q [212, byteI k], q + 2, by rw [setsL_len, b1], b2, ?_, ?_⟩
      · simp only [cont, Option.getD_some] at b3 ⊢
        rw [← b3, List.append_assoc]; exact congrArg (out1 ++ ·) ts
      · have e := heno1 N n (q + 2) buf buf2 out1 q k (by
          simp only [AllP, w1, Int.toNat_natCast]
          repeat' (first | exact trivial | omega | exact C | exact (u8bound _).1 | exact (u8bound _).2 | exact Le.refl _ | exact RowLe.refl _ | with_reducible apply And.intro | exact rfl))
        simp only [w1, Int.toNat_natCast] at e
        exact e
  · obtain ⟨out2, buf2, q, b1, b2, b3, C⟩ := reqO N n 2 buf out (by omega) h18 hN hb hn (by omega)
    have w1 : IntKind.i64.wrap ((q : Int) + 1) = ((q + 1 : Nat) : Int) := wq q 1 (by omega)
    have ts := take_sets [212, byteI k] buf2 q (by rw [b1]; exact b2)
    refine ⟨out2, setsL buf2 q [212, byteI k], q + 2, by rw [setsL_len, b1], b2, ?_, ?_⟩
    · rw [← b3, List.append_assoc]; exact congrArg (out2 ++ ·) ts
    · have e := heoo1 N n (q + 2) buf out buf2 out2 q k (by
        simp only [AllP, w1, Int.toNat_natCast]
        repeat' (first | exact trivial | omega | exact C | exact (u8bound _).1 | exact (u8bound _).2 | exact Le.refl _ | exact RowLe.refl _ | with_reducible apply And.intro | exact rfl))
      simp only [w1, Int.toNat_natCast] at e
      exact e

theorem head2 (k : Int) : Writes 30 [iL 2, .lit (.int .i8 k)] [213, byteI k] := fun N n buf h18 hN hb hn => by
  refine ⟨?_, fun out ho => ?_⟩
  · obtain ⟨o2, buf2, q, b1, b2, b3, C⟩ := reqN N n 2 buf (by omega) h18 hN hb hn
    have w1 : IntKind.i64.wrap ((q : Int) + 1) = ((q + 1 : Nat) : Int) := wq q 1 (by omega)
    have ts := take_sets [213, byteI k] buf2 q (by rw [b1]; exact b2)
    cases o2 with
    | none =>
      refine ⟨none, setsL buf2 q [213, byteI k], q + 2, by rw [setsL_len, b1], b2, ?_, ?_⟩
      · simp only [cont, Option.getD_none, List.nil_append] at b3 ⊢
        rw [← b3]; exact ts
      · have e := henn2 N n (q + 2) buf buf2 q k (by
          simp only [AllP, w1, Int.toNat_natCast]
          repeat' (first | exact trivial | omega | exact C | exact (u8bound _).1 | exact (u8bound _).2 | exact Le.refl _ | exact RowLe.refl _ | with_reducible apply And.intro | exact rfl))
        simp only [w1, Int.toNat_natCast] at e
        exact e
    | some out1 =>
      refine ⟨some out1, setsL buf2 q [213, byteI k], q + 2, by rw [setsL_len, b1], b2, ?_, ?_⟩
      · simp only [cont, Option.getD_some] at b3 ⊢
        rw [← b3, List.append_assoc]; exact congrArg (out1 ++ ·) ts
      · have e := heno2 N n (q + 2) buf buf2 out1 q k (by
          simp only [AllP, w1, Int.toNat_natCast]
          repeat' (first | exact trivial | omega | exact C | exact (u8bound _).1 | exact (u8bound _).2 | exact Le.refl _ | exact RowLe.refl _ | with_reducible apply And.intro | exact rfl))
        simp only [w1, Int.toNat_natCast] at e
        exact e
  · obtain ⟨out2, buf2, q, b1, b2, b3, C⟩ := reqO N n 2 buf out (by omega) h18 hN hb hn (by omega)
    have w1 : IntKind.i64.wrap ((q : Int) + 1) = ((q + 1 : Nat) : Int) := wq q 1 (by omega)
    have ts := take_sets [213, byteI k] buf2 q (by rw [b1]; exact b2)
    refine ⟨out2, setsL buf2 q [213, byteI k], q + 2, by rw [setsL_len, b1], b2, ?_, ?_⟩
    · rw [← b3, List.append_assoc]; exact congrArg (out2 ++ ·) ts
    · have e := heoo2 N n (q + 2) buf out buf2 out2 q k (by
        simp only [AllP, w1, Int.toNat_natCast]
        repeat' (first | exact trivial | omega | exact C | exact (u8bound _).1 | exact (u8bound _).2 | exact Le.refl _ | exact RowLe.refl _ | with_reducible apply And.intro | exact rfl))
      simp only [w1, Int.toNat_natCast] at e
      exact e

theorem head4 (k : Int) : Writes 30 [iL 4, .lit (.int .i8 k)] [214, byteI k] := fun N n buf h18 hN hb hn => by
  refine ⟨?_, fun out ho => ?_⟩
  · obtain ⟨o2, buf2, q, b1, b2, b3, C⟩ := reqN N n 2 buf (by omega) h18 hN hb hn
    have w1 : IntKind.i64.wrap ((q : Int) + 1) = ((q + 1 : Nat) : Int) := wq q 1 (by omega)
    have ts := take_sets [214, byteI k] buf2 q (by rw [b1]; exact b2)
    cases o2 with
    | none =>
      refine ⟨none, setsL buf2 q [214, byteI k], q + 2, by rw [setsL_len, b1], b2, ?_, ?_⟩
      · simp only [cont, Option.getD_none, List.nil_append] at b3 ⊢
        rw [← b3]; exact ts
      · have e := henn4 N n (q + 2) buf buf2 q k (by
          simp only [AllP, w1, Int.toNat_natCast]
          repeat' (first | exact trivial | omega | exact C | exact (u8bound _).1 | exact (u8bound _).2 | exact Le.refl _ | exact RowLe.refl _ | with_reducible apply And.intro | exact rfl))
        simp only [w1, Int.toNat_natCast] at e
        exact e
    | some out1 =>
      refine ⟨some out1, setsL buf2 q [214, byteI k], q + 2, by rw [setsL_len, b1], b2, ?_, ?_⟩
      · simp only [cont, Option.getD_some] at b3 ⊢
        rw [← b3, List.append_assoc]; exact congrArg (out1 ++ ·) ts
      · have e := heno4 N n (q + 2) buf buf2 out1 q k (by
          simp only [AllP, w1, Int.toNat_natCast]
          repeat' (first | exact trivial | omega | exact C | exact (u8bound _).1 | exact (u8bound _).2 | exact Le.refl _ | exact RowLe.refl _ | with_reducible apply And.intro | exact rfl))
        simp only [w1, Int.toNat_natCast] at e
        exact e
  · obtain ⟨out2, buf2, q, b1, b2, b3, C⟩ := reqO N n 2 buf out (by omega) h18 hN hb hn (by omega)
    have w1 : IntKind.i64.wrap ((q : Int) + 1) = ((q + 1 : Nat) : Int) := wq q 1 (by omega)
    have ts := take_sets [214, byteI k] buf2 q (by rw [b1]; exact b2)
    refine ⟨out2, setsL buf2 q [214, byteI k], q + 2, by rw [setsL_len, b1], b2, ?_, ?_⟩
    · rw [← b3, List.append_assoc]; exact congrArg (out2 ++ ·) ts
    · have e := heoo4 N n (q + 2) buf out buf2 out2 q k (by
        simp only [AllP, w1, Int.toNat_natCast]
        repeat' (first | exact trivial | omega | exact C | exact (u8bound _).1 | exact (u8bound _).2 | exact Le.refl _ | exact RowLe.refl _ | with_reducible apply And.intro | exact rfl))
      simp only [w1, Int.toNat_natCast] at e
      exact e

theorem head8 (k : Int) : Writes 30 [iL 8, .lit (.int .i8 k)] [215, byteI k] := fun N n buf h18 hN hb hn => by
  refine ⟨?_, fun out ho => ?_⟩
  · obtain ⟨o2, buf2, q, b1, b2, b3, C⟩ := reqN N n 2 buf (by omega) h18 hN hb hn
    have w1 : IntKind.i64.wrap ((q : Int) + 1) = ((q + 1 : Nat) : Int) := wq q 1 (by omega)
    have ts := take_sets [215, byteI k] buf2 q (by rw [b1]; exact b2)
    cases o2 with
    | none =>
      refine ⟨none, setsL buf2 q [215, byteI k], q + 2, by rw [setsL_len, b1], b2, ?_, ?_⟩
      · simp only [cont, Option.getD_none, List.nil_append] at b3 ⊢
        rw [← b3]; exact ts
      · have e := henn8 N n (q + 2) buf buf2 q k (by
          simp only [AllP, w1, Int.toNat_natCast]
          repeat' (first | exact trivial | omega | exact C | exact (u8bound _).1 | exact (u8bound _).2 | exact Le.refl _ | exact RowLe.refl _ | with_reducible apply And.intro | exact rfl))
        simp only [w1, Int.toNat_natCast] at e
        exact e
    | some out1 =>
      refine ⟨some out1, setsL buf2 q [215, byteI k], q + 2, by rw [setsL_len, b1], b2, ?_, ?_⟩
      · simp only [cont, Option.getD_some] at b3 ⊢
        rw [← b3, List.append_assoc]; exact congrArg (out1 ++ ·) ts
      · have e := heno8 N n (q + 2) buf buf2 out1 q k (by
          simp only [AllP, w1, Int.toNat_natCast]
          repeat' (first | exact trivial | omega | exact C | exact (u8bound _).1 | exact (u8bound _).2 | exact Le.refl _ | exact RowLe.refl _ | with_reducible apply And.intro | exact rfl))
        simp only [w1, Int.toNat_natCast] at e
        exact e
  · obtain ⟨out2, buf2, q, b1, b2, b3, C⟩ := reqO N n 2 buf out (by omega) h18 hN hb hn (by omega)
    have w1 : IntKind.i64.wrap ((q : Int) + 1) = ((q + 1 : Nat) : Int) := wq q 1 (by omega)
    have ts := take_sets [215, byteI k] buf2 q (by rw [b1]; exact b2)
    refine ⟨out2, setsL buf2 q [215, byteI k], q + 2, by rw [setsL_len, b1], b2, ?_, ?_⟩
    · rw [← b3, List.append_assoc]; exact congrArg (out2 ++ ·) ts
    · have e := heoo8 N n (q + 2) buf out buf2 out2 q k (by
        simp only [AllP, w1, Int.toNat_natCast]
        repeat' (first | exact trivial | omega | exact C | exact (u8bound _).1 | exact (u8bound _).2 | exact Le.refl _ | exact RowLe.refl _ | with_reducible apply And.intro | exact rfl))
      simp only [w1, Int.toNat_natCast] at e
      exact e

theorem head16 (k : Int) : Writes 30 [iL 16, .lit (.int .i8 k)] [216, byteI k] := fun N n buf h18 hN hb hn => by
  refine ⟨?_, fun out ho => ?_⟩
  · obtain ⟨o2, buf2, q, b1, b2, b3, C⟩ := reqN N n 2 buf (by omega) h18 hN hb hn
    have w1 : IntKind.i64.wrap ((q : Int) + 1) = ((q + 1 : Nat) : Int) := wq q 1 (by omega)
    have ts := take_sets [216, byteI k] buf2 q (by rw [b1]; exact b2)
    cases o2 with
    | none =>
      refine ⟨none, setsL buf2 q [216, byteI k], q + 2, by rw [setsL_len, b1], b2, ?_, ?_⟩
      · simp only [cont, Option.getD_none, List.nil_append] at b3 ⊢
        rw [← b3]; exact ts
      · have e := henn16 N n (q + 2) buf buf2 q k (by
          simp only [AllP, w1, Int.toNat_natCast]
          repeat' (first | exact trivial | omega | exact C | exact (u8bound _).1 | exact (u8bound _).2 | exact Le.refl _ | exact RowLe.refl _ | with_reducible apply And.intro | exact rfl))
        simp only [w1, Int.toNat_natCast] at e
        exact e
    | some out1 =>
      refine ⟨some out1, setsL buf2 q [216, byteI k], q + 2, by rw [setsL_len, b1], b2, ?_, ?_⟩
      · simp only [cont, Option.getD_some] at b3 ⊢
        rw [← b3, List.append_assoc]; exact congrArg (out1 ++ ·) ts
      · have e := heno16 N n (q + 2) buf buf2 out1 q k (by
          simp only [AllP, w1, Int.toNat_natCast]
          repeat' (first | exact trivial | omega | exact C | exact (u8bound _).1 | exact (u8bound _).2 | exact Le.refl _ | exact RowLe.refl _ | with_reducible apply And.intro | exact rfl))
        simp only [w1, Int.toNat_natCast] at e
        exact e
  · obtain ⟨out2, buf2, q, b1, b2, b3, C⟩ := reqO N n 2 buf out (by omega) h18 hN hb hn (by omega)
    have w1 : IntKind.i64.wrap ((q : Int) + 1) = ((q + 1 : Nat) : Int) := wq q 1 (by omega)
    have ts := take_sets [216, byteI k] buf2 q (by rw [b1]; exact b2)
    refine ⟨out2, setsL buf2 q [216, byteI k], q + 2, by rw [setsL_len, b1], b2, ?_, ?_⟩
    · rw [← b3, List.append_assoc]; exact congrArg (out2 ++ ·) ts
    · have e := heoo16 N n (q + 2) buf out buf2 out2 q k (by
        simp only [AllP, w1, Int.toNat_natCast]
        repeat' (first | exact trivial | omega | exact C | exact (u8bound _).1 | exact (u8bound _).2 | exact Le.refl _ | exact RowLe.refl _ | with_reducible apply And.intro | exact rfl))
      simp only [w1, Int.toNat_natCast] at e
      exact e

theorem heada (ln : Nat) (hs : ln ≠ 0 ∧ ln ≠ 1 ∧ ln ≠ 2 ∧ ln ≠ 4 ∧ ln ≠ 8 ∧ ln ≠ 16) (h255 : ln < 255) (k : Int) : Writes 30 [iL ln, .lit (.int .i8 k)] [199, byteI (ln : Int), byteI k] := fun N n buf h18 hN hb hn => by
  refine ⟨?_, fun out ho => ?_⟩
  · obtain ⟨o2, buf2, q, b1, b2, b3, C⟩ := reqN N n 3 buf (by omega) h18 hN hb hn
    have w1 : IntKind.i64.wrap ((q : Int) + 1) = ((q + 1 : Nat) : Int) := wq q 1 (by omega)
    have w2 : IntKind.i64.wrap ((q : Int) + 2) = ((q + 2 : Nat) : Int) := wq q 2 (by omega)
    have ts := take_sets [199, byteI (ln : Int), byteI k] buf2 q (by rw [b1]; exact b2)
    cases o2 with
    | none =>
      refine ⟨none, setsL buf2 q [199, byteI (ln : Int), byteI k], q + 3, by rw [setsL_len, b1], b2, ?_, ?_⟩
      · simp only [cont, Option.getD_none, List.nil_append] at b3 ⊢
        rw [← b3]; exact ts
      · have e := henna N n (q + 3) buf buf2 q ln k (by
          simp only [AllP, w1, w2, Int.toNat_natCast]
          repeat' (first | exact trivial | omega | exact C | exact (u8bound _).1 | exact (u8bound _).2 | exact Le.refl _ | exact RowLe.refl _ | with_reducible apply And.intro | exact rfl))
        simp only [w1, w2, Int.toNat_natCast] at e
        exact e
    | some out1 =>
      refine ⟨some out1, setsL buf2 q [199, byteI (ln : Int), byteI k], q + 3, by rw [setsL_len, b1], b2, ?_, ?_⟩
      · simp only [cont, Option.getD_some] at b3 ⊢
        rw [← b3, List.append_assoc]; exact congrArg (out1 ++ ·) ts
      · have e := henoa N n (q + 3) buf buf2 out1 q ln k (by
          simp only [AllP, w1, w2, Int.toNat_natCast]
          repeat' (first | exact trivial | omega | exact C | exact (u8bound _).1 | exact (u8bound _).2 | exact Le.refl _ | exact RowLe.refl _ | with_reducible apply And.intro | exact rfl))
        simp only [w1, w2, Int.toNat_natCast] at e
        exact e
  · obtain ⟨out2, buf2, q, b1, b2, b3, C⟩ := reqO N n 3 buf out (by omega) h18 hN hb hn (by omega)
    have w1 : IntKind.i64.wrap ((q : Int) + 1) = ((q + 1 : Nat) : Int) := wq q 1 (by omega)
    have w2 : IntKind.i64.wrap ((q : Int) + 2) = ((q + 2 : Nat) : Int) := wq q 2 (by omega)
    have ts := take_sets [199, byteI (ln : Int), byteI k] buf2 q (by rw [b1]; exact b2)
    refine ⟨out2, setsL buf2 q [199, byteI (ln : Int), byteI k], q + 3, by rw [setsL_len, b1], b2, ?_, ?_⟩
    · rw [← b3, List.append_assoc]; exact congrArg (out2 ++ ·) ts
    · have e := heooa N n (q + 3) buf out buf2 out2 q ln k (by
        simp only [AllP, w1, w2, Int.toNat_natCast]
        repeat' (first | exact trivial | omega | exact C | exact (u8bound _).1 | exact (u8bound _).2 | exact Le.refl _ | exact RowLe.refl _ | with_reducible apply And.intro | exact rfl))
      simp only [w1, w2, Int.toNat_natCast] at e
      exact e

theorem headb (ln : Nat) (hs : ln ≠ 0 ∧ ln ≠ 1 ∧ ln ≠ 2 ∧ ln ≠ 4 ∧ ln ≠ 8 ∧ ln ≠ 16) (h255 : 255 ≤ ln) (h65 : ln < 65535) (k : Int) : Writes 30 [iL ln, .lit (.int .i8 k)] [200, byteI ((IntKind.u16.wrap (ln : Int)).fdiv 256), byteI (IntKind.u16.wrap (ln : Int)), byteI k] := fun N n buf h18 hN hb hn => by
  refine ⟨?_, fun out ho => ?_⟩
  · obtain ⟨o2, buf2, q, b1, b2, b3, C⟩ := reqN N n 4 buf (by omega) h18 hN hb hn
    have w1 : IntKind.i64.wrap ((q : Int) + 1) = ((q + 1 : Nat) : Int) := wq q 1 (by omega)
    have w3 : IntKind.i64.wrap ((q : Int) + 3) = ((q + 3 : Nat) : Int) := wq q 3 (by omega)
    have ts := take_sets [200, byteI ((IntKind.u16.wrap (ln : Int)).fdiv 256), byteI (IntKind.u16.wrap (ln : Int)), byteI k] buf2 q (by rw [b1]; exact b2)
    cases o2 with
    | none =>
      refine ⟨none, setsL buf2 q [200, byteI ((IntKind.u16.wrap (ln : Int)).fdiv 256), byteI (IntKind.u16.wrap (ln : Int)), byteI k], q + 4, by rw [setsL_len, b1], b2, ?_, ?_⟩
      · simp only [cont, Option.getD_none, List.nil_append] at b3 ⊢
        rw [← b3]; exact ts
      · have e := hennb N n (q + 4) buf buf2 q ln k (by
          simp only [AllP, w1, w3, Int.toNat_natCast]
          repeat' (first | exact trivial | omega | exact C | exact (u8bound _).1 | exact (u8bound _).2 | exact Le.refl _ | exact RowLe.refl _ | with_reducible apply And.intro | exact rfl))
        simp only [w1, w3, Int.toNat_natCast] at e
        exact e
    | some out1 =>
      refine ⟨some out1, setsL buf2 q [200, byteI ((IntKind.u16.wrap (ln : Int)).fdiv 256), byteI (IntKind.u16.wrap (ln : Int)), byteI k], q + 4, by rw [setsL_len, b1], b2, ?_, ?_⟩
      · simp only [cont, Option.getD_some] at b3 ⊢
        rw [← b3, List.append_assoc]; exact congrArg (out1 ++ ·) ts
      · have e := henob N n (q + 4) buf buf2 out1 q ln k (by
          simp only [AllP, w1, w3, Int.toNat_natCast]
          repeat' (first | exact trivial | omega | exact C | exact (u8bound _).1 | exact (u8bound _).2 | exact Le.refl _ | exact RowLe.refl _ | with_reducible apply And.intro | exact rfl))
        simp only [w1, w3, Int.toNat_natCast] at e
        exact e
  · obtain ⟨out2, buf2, q, b1, b2, b3, C⟩ := reqO N n 4 buf out (by omega) h18 hN hb hn (by omega)
    have w1 : IntKind.i64.wrap ((q : Int) + 1) = ((q + 1 : Nat) : Int) := wq q 1 (by omega)
    have w3 : IntKind.i64.wrap ((q : Int) + 3) = ((q + 3 : Nat) : Int) := wq q 3 (by omega)
    have ts := take_sets [200, byteI ((IntKind.u16.wrap (ln : Int)).fdiv 256), byteI (IntKind.u16.wrap (ln : Int)), byteI k] buf2 q (by rw [b1]; exact b2)
    refine ⟨out2, setsL buf2 q [200, byteI ((IntKind.u16.wrap (ln : Int)).fdiv 256), byteI (IntKind.u16.wrap (ln : Int)), byteI k], q + 4, by rw [setsL_len, b1], b2, ?_, ?_⟩
    · rw [← b3, List.append_assoc]; exact congrArg (out2 ++ ·) ts
    · have e := heoob N n (q + 4) buf out buf2 out2 q ln k (by
        simp only [AllP, w1, w3, Int.toNat_natCast]
        repeat' (first | exact trivial | omega | exact C | exact (u8bound _).1 | exact (u8bound _).2 | exact Le.refl _ | exact RowLe.refl _ | with_reducible apply And.intro | exact rfl))
      simp only [w1, w3, Int.toNat_natCast] at e
      exact e

theorem headc (ln : Nat) (hs : ln ≠ 0 ∧ ln ≠ 1 ∧ ln ≠ 2 ∧ ln ≠ 4 ∧ ln ≠ 8 ∧ ln ≠ 16) (h65 : 65535 ≤ ln) (k : Int) : Writes 30 [iL ln, .lit (.int .i8 k)] [201, byteI ((IntKind.u32.wrap (ln : Int)).fdiv 16777216), byteI ((IntKind.u32.wrap (ln : Int)).fdiv 65536), byteI ((IntKind.u32.wrap (ln : Int)).fdiv 256), byteI (IntKind.u32.wrap (ln : Int)), byteI k] := fun N n buf h18 hN hb hn => by
  refine ⟨?_, fun out ho => ?_⟩
  · obtain ⟨o2, buf2, q, b1, b2, b3, C⟩ := reqN N n 6 buf (by omega) h18 hN hb hn
    have w1 : IntKind.i64.wrap ((q : Int) + 1) = ((q + 1 : Nat) : Int) := wq q 1 (by omega)
    have w5 : IntKind.i64.wrap ((q : Int) + 5) = ((q + 5 : Nat) : Int) := wq q 5 (by omega)
    have ts := take_sets [201, byteI ((IntKind.u32.wrap (ln : Int)).fdiv 16777216), byteI ((IntKind.u32.wrap (ln : Int)).fdiv 65536), byteI ((IntKind.u32.wrap (ln : Int)).fdiv 256), byteI (IntKind.u32.wrap (ln : Int)), byteI k] buf2 q (by rw [b1]; exact b2)
    cases o2 with
    | none =>
      refine ⟨none, setsL buf2 q [201, byteI ((IntKind.u32.wrap (ln : Int)).fdiv 16777216), byteI ((IntKind.u32.wrap (ln : Int)).fdiv 65536), byteI ((IntKind.u32.wrap (ln : Int)).fdiv 256), byteI (IntKind.u32.wrap (ln : Int)), byteI k], q + 6, by rw [setsL_len, b1], b2, ?_, ?_⟩
      · simp only [cont, Option.getD_none, List.nil_append] at b3 ⊢
        rw [← b3]; exact ts
      · have e := hennc N n (q + 6) buf buf2 q ln k (by
          simp only [AllP, w1, w5, Int.toNat_natCast]
          repeat' (first | exact trivial | omega | exact C | exact (u8bound _).1 | exact (u8bound _).2 | exact Le.refl _ | exact RowLe.refl _ | with_reducible apply And.intro | exact rfl))
        simp only [w1, w5, Int.toNat_natCast] at e
        exact e
    | some out1 =>
      refine ⟨some out1, setsL buf2 q [201, byteI ((IntKind.u32.wrap (ln : Int)).fdiv 16777216), byteI ((IntKind.u32.wrap (ln : Int)).fdiv 65536), byteI ((IntKind.u32.wrap (ln : Int)).fdiv 256), byteI (IntKind.u32.wrap (ln : Int)), byteI k], q + 6, by rw [setsL_len, b1], b2, ?_, ?_⟩
      · simp only [cont, Option.getD_some] at b3 ⊢
        rw [← b3, List.append_assoc]; exact congrArg (out1 ++ ·) ts
      · have e := henoc N n (q + 6) buf buf2 out1 q ln k (by
          simp only [AllP, w1, w5, Int.toNat_natCast]
          repeat' (first | exact trivial | omega | exact C | exact (u8bound _).1 | exact (u8bound _).2 | exact Le.refl _ | exact RowLe.refl _ | with_reducible apply And.intro | exact rfl))
        simp only [w1, w5, Int.toNat_natCast] at e
        exact e
  · obtain ⟨out2, buf2, q, b1, b2, b3, C⟩ := reqO N n 6 buf out (by omega) h18 hN hb hn (by omega)
    have w1 : IntKind.i64.wrap ((q : Int) + 1) = ((q + 1 : Nat) : Int) := wq q 1 (by omega)
    have w5 : IntKind.i64.wrap ((q : Int) + 5) = ((q + 5 : Nat) : Int) := wq q 5 (by omega)
    have ts := take_sets [201, byteI ((IntKind.u32.wrap (ln : Int)).fdiv 16777216), byteI ((IntKind.u32.wrap (ln : Int)).fdiv 65536), byteI ((IntKind.u32.wrap (ln : Int)).fdiv 256), byteI (IntKind.u32.wrap (ln : Int)), byteI k] buf2 q (by rw [b1]; exact b2)
    refine ⟨out2, setsL buf2 q [201, byteI ((IntKind.u32.wrap (ln : Int)).fdiv 16777216), byteI ((IntKind.u32.wrap (ln : Int)).fdiv 65536), byteI ((IntKind.u32.wrap (ln : Int)).fdiv 256), byteI (IntKind.u32.wrap (ln : Int)), byteI k], q + 6, by rw [setsL_len, b1], b2, ?_, ?_⟩
    · rw [← b3, List.append_assoc]; exact congrArg (out2 ++ ·) ts
    · have e := heooc N n (q + 6) buf out buf2 out2 q ln k (by
        simp only [AllP, w1, w5, Int.toNat_natCast]
        repeat' (first | exact trivial | omega | exact C | exact (u8bound _).1 | exact (u8bound _).2 | exact Le.refl _ | exact RowLe.refl _ | with_reducible apply And.intro | exact rfl))
      simp only [w1, w5, Int.toNat_natCast] at e
      exact e

/-! ### The bytes -/
def putB (buf : List UInt8) (n : Nat) (xs : List UInt8) : List UInt8 := buf.take n ++ xs ++ buf.drop (n + xs.length)
theorem putB_len (buf : List UInt8) (n : Nat) (xs : List UInt8) (h : n + xs.length ≤ buf.length) : (putB buf n xs).length = buf.length := by simp [putB]; omega
theorem putB_take (buf : List UInt8) (n : Nat) (xs : List UInt8) (h : n + xs.length ≤ buf.length) : (putB buf n xs).take (n + xs.length) = buf.take n ++ xs := by
  rw [putB, List.take_left' (by simp; omega)]
theorem avC (N n : Nat) (buf : List UInt8) (hN : N ≤ 65536) (hn : n ≤ N) : ACalls Try.prog noG 31 [.ptr 0 0] (rN N n buf) (iL ((N - n : Nat) : Int)) (rN N n buf) := by
  have w : IntKind.i64.wrap ((N : Int) - n) = ((N - n : Nat) : Int) := by rw [wrap64 (by omega) (by omega)]; omega
  have e := avN N n buf trivial
  rw [w] at e
  exact e
theorem avD (N n : Nat) (buf out : List UInt8) (hN : N ≤ 65536) (hn : n ≤ N) : ACalls Try.prog noG 31 [.ptr 0 0] (rO N n buf out) (iL ((N - n : Nat) : Int)) (rO N n buf out) := by
  have w : IntKind.i64.wrap ((N : Int) - n) = ((N - n : Nat) : Int) := by rw [wrap64 (by omega) (by omega)]; omega
  have e := avO N n buf out trivial
  rw [w] at e
  exact e
theorem cpy (buf tx : List UInt8) (N n m : Nat) (hm : m ≤ tx.length) (h : n + m ≤ N) :
    List.take (0 + ((n : Nat) : Int).toNat * 1) buf ++ List.take (Min.min (List.drop 0 (List.take ((m : Nat) : Int).toNat tx)).length (((N : Nat) : Int).toNat - ((n : Nat) : Int).toNat)) (List.drop 0 (List.take ((m : Nat) : Int).toNat tx)) ++
      List.drop (0 + ((n : Nat) : Int).toNat * 1 + Min.min (List.drop 0 (List.take ((m : Nat) : Int).toNat tx)).length (((N : Nat) : Int).toNat - ((n : Nat) : Int).toNat)) buf = putB buf n (tx.take m) := by
  simp only [Int.toNat_natCast, Nat.zero_add, Nat.mul_one, List.drop_zero]
  have hl : (List.take m tx).length = m := by simp; omega
  rw [hl, Nat.min_eq_left (by omega), List.take_take, Nat.min_self, putB, hl]
theorem cpw (tx : List UInt8) (N n m : Nat) (hm : m ≤ tx.length) (h : n + m ≤ N) (hN : N ≤ 65536) :
    IntKind.i64.wrap (((n : Nat) : Int) + ((Min.min (List.drop 0 (List.take ((m : Nat) : Int).toNat tx)).length (((N : Nat) : Int).toNat - ((n : Nat) : Int).toNat) : Nat) : Int)) = ((n + m : Nat) : Int) := by
  simp only [Int.toNat_natCast, List.drop_zero]
  have hl : (List.take m tx).length = m := by simp; omega
  rw [hl, Nat.min_eq_left (by omega)]
  exact wq n m (by omega)
abbrev slX (tx : List UInt8) : List (Nat × AV) := [(0, .ptr 0 0), (2, .bts tx)]
theorem slrest (tx : List UInt8) (m : Nat) : ([(0, AV.ptr 0 0), (2, AV.bts (List.drop ((m : Nat) : Int).toNat (List.take ((tx.length : Nat) : Int).toNat tx)))] : List (Nat × AV)) = slX (tx.drop m) := by
  simp only [Int.toNat_natCast, List.take_length]

theorem payO : ∀ (s : Nat) (tx : List UInt8), tx.length = s → ∀ (N n : Nat) (buf out : List UInt8), 18 ≤ N → N ≤ 65536 → buf.length = N → n ≤ N → out.length + n + tx.length ≤ bigO →
    ∃ out3 buf3 n3, buf3.length = N ∧ n3 ≤ N ∧ out3 ++ buf3.take n3 = out ++ buf.take n ++ tx ∧ LoopK Try.prog noG 3 61 (loopAt Try.f19 0) (slX tx) (rO N n buf out) (.exit 0) [(0, .ptr 0 0)] (rO N n3 buf3 out3) := by
  intro s
  induction s using Nat.strongRecOn with
  | _ s ih =>
    intro tx hs N n buf out h18 hN hb hn hbig
    have hbg : bigO = 100000000000 := rfl
    rcases Nat.eq_zero_or_pos tx.length with h0 | h0
    · obtain rfl := List.eq_nil_of_length_eq_zero h0
      refine ⟨out, buf, n, hb, hn, by simp, ?_⟩
      have e := xlOx N n buf out (by simp [AllP])
      exact LoopK.exit e (by simp)
    · have hp : decide (((tx.length : Nat) : Int) > 0) = true := by simp; omega
      rcases Nat.lt_or_ge n N with hlt | hge
      · have av := avD N n buf out hN hn
        have ne0 : ((((N - n : Nat)) : Int) == (0 : Int)) = false := by simp; omega
        by_cases hm : tx.length < N - n
        · have d : decide (((N - n : Nat) : Int) > (tx.length : Int)) = true := by simp; omega
          have e := xlOa N n buf out tx (N - n) (by
            simp only [AllP, leAll]
            repeat' (first | exact trivial | exact rfl | exact av | exact d | exact hp | exact ne0 | exact Le.refl _ | exact RowLe.refl _ | (left; omega) | omega | with_reducible apply And.intro))
          rw [cpy buf tx N n tx.length (by omega) (by omega), cpw tx N n tx.length (by omega) (by omega) hN, slrest, List.drop_length, List.take_length] at e
          obtain ⟨out3, buf3, n3, c1, c2, c3, L⟩ := ih 0 (by omega) [] rfl N (n + tx.length) (putB buf n tx) out h18 hN (by rw [putB_len _ _ _ (by omega)]; exact hb) (by omega) (by simp; omega)
          rw [putB_take _ _ _ (by omega)] at c3
          exact ⟨out3, buf3, n3, c1, c2, by rw [c3]; simp, LoopK.step [some 0, some 1, some 2, some 3] e rfl L⟩
        · have d : decide (((N - n : Nat) : Int) > (tx.length : Int)) = false := by simp; omega
          have e := xlOb N n buf out tx (N - n) (by
            simp only [AllP, leAll]
            repeat' (first | exact trivial | exact rfl | exact av | exact d | exact hp | exact ne0 | exact Le.refl _ | exact RowLe.refl _ | (left; omega) | omega | with_reducible apply And.intro))
          rw [cpy buf tx N n (N - n) (by omega) (by omega), cpw tx N n (N - n) (by omega) (by omega) hN, slrest] at e
          have hl : (tx.take (N - n)).length = N - n := by simp; omega
          obtain ⟨out3, buf3, n3, c1, c2, c3, L⟩ := ih (tx.drop (N - n)).length (by simp; omega) (tx.drop (N - n)) rfl N (n + (N - n)) (putB buf n (tx.take (N - n))) out h18 hN (by rw [putB_len _ _ _ (by omega)]; exact hb) (by omega) (by simp; omega)
          have tk := putB_take buf n (tx.take (N - n)) (by omega)
          rw [hl] at tk
          rw [tk] at c3
          exact ⟨out3, buf3, n3, c1, c2, by rw [c3]; simp, LoopK.step [some 0, some 1, some 2, some 3] e rfl L⟩
      · obtain rfl : n = N := by omega
        have av0 := avD n n buf out hN (Nat.le_refl _)
        rw [Nat.sub_self] at av0
        have f := flushO n n buf out (by omega) (Nat.le_refl _) hb (by omega) (by omega)
        have av := avD n 0 buf (out ++ buf.take n) hN (by omega)
        rw [Nat.sub_zero] at av
        by_cases hm : tx.length < n
        · have d : decide ((n : Int) > (tx.length : Int)) = true := by simp; omega
          have e := xlOc n n buf out buf (out ++ buf.take n) tx n (by
            simp only [AllP, leAll]
            repeat' (first | exact trivial | exact rfl | exact av | exact av0 | exact f | exact d | exact hp | exact Le.refl _ | exact RowLe.refl _ | (left; omega) | omega | with_reducible apply And.intro))
          have q1 := cpy buf tx n 0 tx.length (by omega) (by omega)
          have q2 := cpw tx n 0 tx.length (by omega) (by omega) hN
          simp only [Int.natCast_zero, Int.toNat_zero, Nat.zero_mul, Nat.add_zero, Nat.zero_add] at q1 q2
          simp only [Nat.zero_add] at e
          rw [q1, q2, slrest, List.drop_length, List.take_length] at e
          obtain ⟨out3, buf3, n3, c1, c2, c3, L⟩ := ih 0 (by omega) [] rfl n tx.length (putB buf 0 tx) (out ++ buf.take n) h18 hN (by rw [putB_len _ _ _ (by omega)]; exact hb) (by omega) (by simp; omega)
          have tk := putB_take buf 0 tx (by omega)
          rw [Nat.zero_add] at tk
          rw [tk] at c3
          exact ⟨out3, buf3, n3, c1, c2, by rw [c3]; simp, LoopK.step [some 0, some 1, some 2, some 4] e rfl L⟩
        · have d : decide ((n : Int) > (tx.length : Int)) = false := by simp; omega
          have e := xlOd n n buf out buf (out ++ buf.take n) tx n (by
            simp only [AllP, leAll]
            repeat' (first | exact trivial | exact rfl | exact av | exact av0 | exact f | exact d | exact hp | exact Le.refl _ | exact RowLe.refl _ | (left; omega) | omega | with_reducible apply And.intro))
          have q1 := cpy buf tx n 0 n (by omega) (by omega)
          have q2 := cpw tx n 0 n (by omega) (by omega) hN
          simp only [Int.natCast_zero, Int.toNat_zero, Nat.zero_mul, Nat.add_zero, Nat.zero_add] at q1 q2
          simp only [Nat.zero_add] at e
          rw [q1, q2, slrest] at e
          have hl : (tx.take n).length = n := by simp; omega
          obtain ⟨out3, buf3, n3, c1, c2, c3, L⟩ := ih (tx.drop n).length (by simp; omega) (tx.drop n) rfl n n (putB buf 0 (tx.take n)) (out ++ buf.take n) h18 hN (by rw [putB_len _ _ _ (by omega)]; exact hb) (by omega) (by simp; omega)
          have tk := putB_take buf 0 (tx.take n) (by omega)
          rw [hl, Nat.zero_add] at tk
          rw [tk] at c3
          exact ⟨out3, buf3, n3, c1, c2, by rw [c3]; simp, LoopK.step [some 0, some 1, some 2, some 4] e rfl L⟩

theorem payN : ∀ (s : Nat) (tx : List UInt8), tx.length = s → ∀ (N n : Nat) (buf : List UInt8), 18 ≤ N → N ≤ 65536 → buf.length = N → n ≤ N → n + tx.length ≤ bigO →
    ∃ o3 buf3 n3, buf3.length = N ∧ n3 ≤ N ∧ cont o3 buf3 n3 = buf.take n ++ tx ∧ LoopK Try.prog noG 3 61 (loopAt Try.f19 0) (slX tx) (rN N n buf) (.exit 0) [(0, .ptr 0 0)] (rS N n3 buf3 o3) := by
  intro s
  induction s using Nat.strongRecOn with
  | _ s ih =>
    intro tx hs N n buf h18 hN hb hn hbig
    have hbg : bigO = 100000000000 := rfl
    rcases Nat.eq_zero_or_pos tx.length with h0 | h0
    · obtain rfl := List.eq_nil_of_length_eq_zero h0
      refine ⟨none, buf, n, hb, hn, by simp [cont], ?_⟩
      have e := xlNx N n buf (by simp [AllP])
      exact LoopK.exit e (by simp)
    · have hp : decide (((tx.length : Nat) : Int) > 0) = true := by simp; omega
      rcases Nat.lt_or_ge n N with hlt | hge
      · have av := avC N n buf hN hn
        have ne0 : ((((N - n : Nat)) : Int) == (0 : Int)) = false := by simp; omega
        by_cases hm : tx.length < N - n
        · have d : decide (((N - n : Nat) : Int) > (tx.length : Int)) = true := by simp; omega
          have e := xlNa N n buf tx (N - n) (by
            simp only [AllP, leAll]
            repeat' (first | exact trivial | exact rfl | exact av | exact d | exact hp | exact ne0 | exact Le.refl _ | exact RowLe.refl _ | (left; omega) | omega | with_reducible apply And.intro))
          rw [cpy buf tx N n tx.length (by omega) (by omega), cpw tx N n tx.length (by omega) (by omega) hN, slrest, List.drop_length, List.take_length] at e
          obtain ⟨o3, buf3, n3, c1, c2, c3, L⟩ := ih 0 (by omega) [] rfl N (n + tx.length) (putB buf n tx) h18 hN (by rw [putB_len _ _ _ (by omega)]; exact hb) (by omega) (by simp; omega)
          rw [putB_take _ _ _ (by omega)] at c3
          exact ⟨o3, buf3, n3, c1, c2, by rw [c3]; simp, LoopK.step [some 0, some 1, some 2] e rfl L⟩
        · have d : decide (((N - n : Nat) : Int) > (tx.length : Int)) = false := by simp; omega
          have e := xlNb N n buf tx (N - n) (by
            simp only [AllP, leAll]
            repeat' (first | exact trivial | exact rfl | exact av | exact d | exact hp | exact ne0 | exact Le.refl _ | exact RowLe.refl _ | (left; omega) | omega | with_reducible apply And.intro))
          rw [cpy buf tx N n (N - n) (by omega) (by omega), cpw tx N n (N - n) (by omega) (by omega) hN, slrest] at e
          have hl : (tx.take (N - n)).length = N - n := by simp; omega
          obtain ⟨o3, buf3, n3, c1, c2, c3, L⟩ := ih (tx.drop (N - n)).length (by simp; omega) (tx.drop (N - n)) rfl N (n + (N - n)) (putB buf n (tx.take (N - n))) h18 hN (by rw [putB_len _ _ _ (by omega)]; exact hb) (by omega) (by simp; omega)
          have tk := putB_take buf n (tx.take (N - n)) (by omega)
          rw [hl] at tk
          rw [tk] at c3
          exact ⟨o3, buf3, n3, c1, c2, by rw [c3]; simp, LoopK.step [some 0, some 1, some 2] e rfl L⟩
      · obtain rfl : n = N := by omega
        have av0 := avC n n buf hN (Nat.le_refl _)
        rw [Nat.sub_self] at av0
        have f := flushN n n buf (by omega) (Nat.le_refl _) hb (by omega)
        have av := avD n 0 buf (buf.take n) hN (by omega)
        rw [Nat.sub_zero] at av
        by_cases hm : tx.length < n
        · have d : decide ((n : Int) > (tx.length : Int)) = true := by simp; omega
          have e := xlNc n n buf buf (buf.take n) tx n (by
            simp only [AllP, leAll]
            repeat' (first | exact trivial | exact rfl | exact av | exact av0 | exact f | exact d | exact hp | exact Le.refl _ | exact RowLe.refl _ | (left; omega) | omega | with_reducible apply And.intro))
          have q1 := cpy buf tx n 0 tx.length (by omega) (by omega)
          have q2 := cpw tx n 0 tx.length (by omega) (by omega) hN
          simp only [Int.natCast_zero, Int.toNat_zero, Nat.zero_mul, Nat.add_zero, Nat.zero_add] at q1 q2
          simp only [Nat.zero_add] at e
          rw [q1, q2, slrest, List.drop_length, List.take_length] at e
          obtain ⟨out3, buf3, n3, c1, c2, c3, L⟩ := payO 0 [] rfl n tx.length (putB buf 0 tx) (buf.take n) h18 hN (by rw [putB_len _ _ _ (by omega)]; exact hb) (by omega) (by simp; omega)
          have tk := putB_take buf 0 tx (by omega)
          rw [Nat.zero_add] at tk
          rw [tk] at c3
          exact ⟨some out3, buf3, n3, c1, c2, by simp only [cont, Option.getD_some]; rw [c3]; simp, LoopK.step [some 0, some 1, some 2, some 3] e rfl L⟩
        · have d : decide ((n : Int) > (tx.length : Int)) = false := by simp; omega
          have e := xlNd n n buf buf (buf.take n) tx n (by
            simp only [AllP, leAll]
            repeat' (first | exact trivial | exact rfl | exact av | exact av0 | exact f | exact d | exact hp | exact Le.refl _ | exact RowLe.refl _ | (left; omega) | omega | with_reducible apply And.intro))
          have q1 := cpy buf tx n 0 n (by omega) (by omega)
          have q2 := cpw tx n 0 n (by omega) (by omega) hN
          simp only [Int.natCast_zero, Int.toNat_zero, Nat.zero_mul, Nat.add_zero, Nat.zero_add] at q1 q2
          simp only [Nat.zero_add] at e
          rw [q1, q2, slrest] at e
          have hl : (tx.take n).length = n := by simp; omega
          obtain ⟨out3, buf3, n3, c1, c2, c3, L⟩ := payO (tx.drop n).length (tx.drop n) rfl n n (putB buf 0 (tx.take n)) (buf.take n) h18 hN (by rw [putB_len _ _ _ (by omega)]; exact hb) (by omega) (by simp; omega)
          have tk := putB_take buf 0 (tx.take n) (by omega)
          rw [hl, Nat.zero_add] at tk
          rw [tk] at c3
          exact ⟨some out3, buf3, n3, c1, c2, by simp only [cont, Option.getD_some]; rw [c3]; simp, LoopK.step [some 0, some 1, some 2, some 3] e rfl L⟩
end Go.Ax
