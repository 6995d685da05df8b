/-
  Values of MessagePack written in chosen forms: the heads of extensions, integers.
-/
import Derived.Test.YtkbmfpkbegjhcaaDoorSgH
import Derived.Test.YtkbmfpkbegjhcaaDoorSgF
import Derived.Test.YtkbmfpkbegjhcaaDoorSgE
set_option linter.unusedVariables false
set_option linter.unusedSimpArgs false
set_option maxRecDepth 100000
namespace Go.Ax
open Go.Proofs

theorem sizes4f (u : Int) (h0 : 0 ≤ u) : ACalls Tryd.prog noG 99 [.lit (.int .u64 u), .own 0 0 4 (some 4)]
    [.cells 103 2 [.lit (.int .i64 204), .lit (.int .i64 1), .lit (.int .i64 205), .lit (.int .i64 2), .lit (.int .i64 206), .lit (.int .i64 4), .lit (.int .i64 207), .lit (.int .i64 8)]] (fAV (sizesOf u [(204, 1), (205, 2), (206, 4), (207, 8)])) [.gone] := by
  refine ACalls.freezeArg 0 rfl rfl ?_
  refine (((sizes4 u 204 205 206 207 h0).frame [.gone] (by simp [leAll, AV.ren]) rfl).le ?_ (Le.refl _) rfl)
  refine ⟨Le.refl _, Le_ro fun i hi => ?_, trivial⟩
  rcases (show i = 0 ∨ i = 1 ∨ i = 2 ∨ i = 3 by omega) with rfl | rfl | rfl | rfl <;> rfl

/-- What the head of an extension may be. -/
def ExtOut (n kd : Int) (out : List UInt8) : Prop :=
  (∃ i : Nat, i < 5 ∧ n = 2 ^ i ∧ out = [UInt8.ofNat (212 + i), byteI kd]) ∨ ∃ p ∈ sizesOf n [(199, 1), (200, 2), (201, 4)], out = headL p.1 p.2 n ++ [byteI kd]

/-- What an integer may be. -/
def IntOut (u : Int) (sg : Bool) (out : List UInt8) : Prop :=
  if sg = true ∧ 9223372036854775808 ≤ u then
    (18446744073709551584 ≤ u ∧ out = [byteI u]) ∨ ∃ i s : Nat, (i, s) ∈ [(0, 1), (1, 2), (2, 4), (3, 8)] ∧ 18446744073709551616 - 2 ^ (8 * s - 1) ≤ u ∧ out = UInt8.ofNat (208 + i) :: bigL u s
  else
    (u < 128 ∧ out = [byteI u]) ∨ (∃ p ∈ sizesOf u [(204, 1), (205, 2), (206, 4), (207, 8)], out = headL p.1 p.2 u) ∨
    ∃ i s : Nat, (i, s) ∈ [(0, 1), (1, 2), (2, 4), (3, 8)] ∧ u < 2 ^ (8 * s - 1) ∧ out = UInt8.ofNat (208 + i) :: bigL u s

theorem int_pi0 (u st : Int) (sh sg : Bool) (h0 : 0 ≤ u) (h1 : u < 128) (hs : sg = true → u < 9223372036854775808) : ∃ out st', IntOut u sg out ∧ ACalls Tryd.prog noG 58 [.ptr 0 0, .lit (.int .u64 u), .lit (.bool sg)] [FR st sh] (.own 1 0 out.length none) [FR st' sh, .bytes 5 out] := by
  have e : sizesOf u [(204, 1), (205, 2), (206, 4), (207, 8)] = [(204, 1), (205, 2), (206, 4), (207, 8)] := by
    have t1 : decide (u < 256) = true := by simp; omega
    have t2 : decide (u < 65536) = true := by simp; omega
    have t3 : decide (u < 4294967296) = true := by simp; omega
    simp [sizesOf, fitB, t1, t2, t3]
  have hz := sizes4f u (by omega)
  rw [e] at hz
  have w1 : IntKind.u64.wrap u = u := by rw [wrapU64]; omega
  have hneg : (bif sg then decide (IntKind.i64.wrap u < 0) else false) = false := by
    cases sg with
    | false => rfl
    | true => have := hs rfl; rw [wrap64 (by omega) (by omega)]; simp; omega
  have hno : ¬ (sg = true ∧ 9223372036854775808 ≤ u) := fun h => by have := hs h.1; omega
  obtain ⟨k, st', hk, hp⟩ := pickC 9 st sh (by omega) (by omega)
  have f0 : fget [(204, 1), (205, 2), (206, 4), (207, 8)] 0 = (204, 1) := rfl
  have c0 := headC 204 1 u (by omega)
  have f1 : fget [(204, 1), (205, 2), (206, 4), (207, 8)] 1 = (205, 2) := rfl
  have c1 := headC 205 2 u (by omega)
  have f2 : fget [(204, 1), (205, 2), (206, 4), (207, 8)] 2 = (206, 4) := rfl
  have c2 := headC 206 4 u (by omega)
  have f3 : fget [(204, 1), (205, 2), (206, 4), (207, 8)] 3 = (207, 8) := rfl
  have c3 := headC 207 8 u (by omega)
  have b1 := bigC u 1 (by omega)
  have m1 : (bigL u 1).length = 1 := bigL_len u 1
  have b2 := bigC u 2 (by omega)
  have m2 : (bigL u 2).length = 2 := bigL_len u 2
  have b4 := bigC u 4 (by omega)
  have m4 : (bigL u 4).length = 4 := bigL_len u 4
  have b8 := bigC u 8 (by omega)
  have m8 : (bigL u 8).length = 8 := bigL_len u 8
  have run := fun x hx => gpi0 u st st' sh sg (fun i => (fget [(204, 1), (205, 2), (206, 4), (207, 8)] i).1) (fun i => (fget [(204, 1), (205, 2), (206, 4), (207, 8)] i).2) (fun i => headL (fget [(204, 1), (205, 2), (206, 4), (207, 8)] i).1 (fget [(204, 1), (205, 2), (206, 4), (207, 8)] i).2 u) (fun i => bigL u i) k x ⟨hx, by (simp only [AllP, leAll, Le_self, w1, f0, f1, f2, f3,  and_true, true_and]; repeat' (first | with_reducible apply And.intro | assumption | exact trivial | omega | (simp; done) | (simp <;> omega)))⟩
  rcases (show k = 0 ∨ k = 1 ∨ k = 2 ∨ k = 3 ∨ k = 4 ∨ k = 5 ∨ k = 6 ∨ k = 7 ∨ k = 8 by omega) with rfl | rfl | rfl | rfl | rfl | rfl | rfl | rfl | rfl
  · exact ⟨[byteI u], st', by unfold IntOut; rw [if_neg hno]; exact .inl ⟨by omega, rfl⟩, run _ (by simp [nth, ofNatU8, fget, bigL_len, Nat.add_comm])⟩
  · exact ⟨headL 204 1 u, st', by unfold IntOut; rw [if_neg hno]; exact .inr (.inl ⟨_, by rw [e]; exact List.mem_of_getElem? (i := 0) rfl, rfl⟩), run _ (by simp [nth, ofNatU8, fget, bigL_len, Nat.add_comm])⟩
  · exact ⟨headL 205 2 u, st', by unfold IntOut; rw [if_neg hno]; exact .inr (.inl ⟨_, by rw [e]; exact List.mem_of_getElem? (i := 1) rfl, rfl⟩), run _ (by simp [nth, ofNatU8, fget, bigL_len, Nat.add_comm])⟩
  · exact ⟨headL 206 4 u, st', by unfold IntOut; rw [if_neg hno]; exact .inr (.inl ⟨_, by rw [e]; exact List.mem_of_getElem? (i := 2) rfl, rfl⟩), run _ (by simp [nth, ofNatU8, fget, bigL_len, Nat.add_comm])⟩
  · exact ⟨headL 207 8 u, st', by unfold IntOut; rw [if_neg hno]; exact .inr (.inl ⟨_, by rw [e]; exact List.mem_of_getElem? (i := 3) rfl, rfl⟩), run _ (by simp [nth, ofNatU8, fget, bigL_len, Nat.add_comm])⟩
  · exact ⟨UInt8.ofNat (208 + 0) :: bigL u 1, st', by unfold IntOut; rw [if_neg hno]; exact .inr (.inr ⟨0, 1, by simp, by omega, rfl⟩), run _ (by simp [nth, ofNatU8, fget, bigL_len, Nat.add_comm])⟩
  · exact ⟨UInt8.ofNat (208 + 1) :: bigL u 2, st', by unfold IntOut; rw [if_neg hno]; exact .inr (.inr ⟨1, 2, by simp, by omega, rfl⟩), run _ (by simp [nth, ofNatU8, fget, bigL_len, Nat.add_comm])⟩
  · exact ⟨UInt8.ofNat (208 + 2) :: bigL u 4, st', by unfold IntOut; rw [if_neg hno]; exact .inr (.inr ⟨2, 4, by simp, by omega, rfl⟩), run _ (by simp [nth, ofNatU8, fget, bigL_len, Nat.add_comm])⟩
  · exact ⟨UInt8.ofNat (208 + 3) :: bigL u 8, st', by unfold IntOut; rw [if_neg hno]; exact .inr (.inr ⟨3, 8, by simp, by omega, rfl⟩), run _ (by simp [nth, ofNatU8, fget, bigL_len, Nat.add_comm])⟩

theorem int_pi1 (u st : Int) (sh sg : Bool) (h0 : 128 ≤ u) (h1 : u < 256) (hs : sg = true → u < 9223372036854775808) : ∃ out st', IntOut u sg out ∧ ACalls Tryd.prog noG 58 [.ptr 0 0, .lit (.int .u64 u), .lit (.bool sg)] [FR st sh] (.own 1 0 out.length none) [FR st' sh, .bytes 5 out] := by
  have e : sizesOf u [(204, 1), (205, 2), (206, 4), (207, 8)] = [(204, 1), (205, 2), (206, 4), (207, 8)] := by
    have t1 : decide (u < 256) = true := by simp; omega
    have t2 : decide (u < 65536) = true := by simp; omega
    have t3 : decide (u < 4294967296) = true := by simp; omega
    simp [sizesOf, fitB, t1, t2, t3]
  have hz := sizes4f u (by omega)
  rw [e] at hz
  have w1 : IntKind.u64.wrap u = u := by rw [wrapU64]; omega
  have hneg : (bif sg then decide (IntKind.i64.wrap u < 0) else false) = false := by
    cases sg with
    | false => rfl
    | true => have := hs rfl; rw [wrap64 (by omega) (by omega)]; simp; omega
  have hno : ¬ (sg = true ∧ 9223372036854775808 ≤ u) := fun h => by have := hs h.1; omega
  obtain ⟨k, st', hk, hp⟩ := pickC 7 st sh (by omega) (by omega)
  have f0 : fget [(204, 1), (205, 2), (206, 4), (207, 8)] 0 = (204, 1) := rfl
  have c0 := headC 204 1 u (by omega)
  have f1 : fget [(204, 1), (205, 2), (206, 4), (207, 8)] 1 = (205, 2) := rfl
  have c1 := headC 205 2 u (by omega)
  have f2 : fget [(204, 1), (205, 2), (206, 4), (207, 8)] 2 = (206, 4) := rfl
  have c2 := headC 206 4 u (by omega)
  have f3 : fget [(204, 1), (205, 2), (206, 4), (207, 8)] 3 = (207, 8) := rfl
  have c3 := headC 207 8 u (by omega)
  have b2 := bigC u 2 (by omega)
  have m2 : (bigL u 2).length = 2 := bigL_len u 2
  have b4 := bigC u 4 (by omega)
  have m4 : (bigL u 4).length = 4 := bigL_len u 4
  have b8 := bigC u 8 (by omega)
  have m8 : (bigL u 8).length = 8 := bigL_len u 8
  have run := fun x hx => gpi1 u st st' sh sg (fun i => (fget [(204, 1), (205, 2), (206, 4), (207, 8)] i).1) (fun i => (fget [(204, 1), (205, 2), (206, 4), (207, 8)] i).2) (fun i => headL (fget [(204, 1), (205, 2), (206, 4), (207, 8)] i).1 (fget [(204, 1), (205, 2), (206, 4), (207, 8)] i).2 u) (fun i => bigL u i) k x ⟨hx, by (simp only [AllP, leAll, Le_self, w1, f0, f1, f2, f3,  and_true, true_and]; repeat' (first | with_reducible apply And.intro | assumption | exact trivial | omega | (simp; done) | (simp <;> omega)))⟩
  rcases (show k = 0 ∨ k = 1 ∨ k = 2 ∨ k = 3 ∨ k = 4 ∨ k = 5 ∨ k = 6 by omega) with rfl | rfl | rfl | rfl | rfl | rfl | rfl
  · exact ⟨headL 204 1 u, st', by unfold IntOut; rw [if_neg hno]; exact .inr (.inl ⟨_, by rw [e]; exact List.mem_of_getElem? (i := 0) rfl, rfl⟩), run _ (by simp [nth, ofNatU8, fget, bigL_len, Nat.add_comm])⟩
  · exact ⟨headL 205 2 u, st', by unfold IntOut; rw [if_neg hno]; exact .inr (.inl ⟨_, by rw [e]; exact List.mem_of_getElem? (i := 1) rfl, rfl⟩), run _ (by simp [nth, ofNatU8, fget, bigL_len, Nat.add_comm])⟩
  · exact ⟨headL 206 4 u, st', by unfold IntOut; rw [if_neg hno]; exact .inr (.inl ⟨_, by rw [e]; exact List.mem_of_getElem? (i := 2) rfl, rfl⟩), run _ (by simp [nth, ofNatU8, fget, bigL_len, Nat.add_comm])⟩
  · exact ⟨headL 207 8 u, st', by unfold IntOut; rw [if_neg hno]; exact .inr (.inl ⟨_, by rw [e]; exact List.mem_of_getElem? (i := 3) rfl, rfl⟩), run _ (by simp [nth, ofNatU8, fget, bigL_len, Nat.add_comm])⟩
  · exact ⟨UInt8.ofNat (208 + 1) :: bigL u 2, st', by unfold IntOut; rw [if_neg hno]; exact .inr (.inr ⟨1, 2, by simp, by omega, rfl⟩), run _ (by simp [nth, ofNatU8, fget, bigL_len, Nat.add_comm])⟩
  · exact ⟨UInt8.ofNat (208 + 2) :: bigL u 4, st', by unfold IntOut; rw [if_neg hno]; exact .inr (.inr ⟨2, 4, by simp, by omega, rfl⟩), run _ (by simp [nth, ofNatU8, fget, bigL_len, Nat.add_comm])⟩
  · exact ⟨UInt8.ofNat (208 + 3) :: bigL u 8, st', by unfold IntOut; rw [if_neg hno]; exact .inr (.inr ⟨3, 8, by simp, by omega, rfl⟩), run _ (by simp [nth, ofNatU8, fget, bigL_len, Nat.add_comm])⟩

theorem int_pi2 (u st : Int) (sh sg : Bool) (h0 : 256 ≤ u) (h1 : u < 32768) (hs : sg = true → u < 9223372036854775808) : ∃ out st', IntOut u sg out ∧ ACalls Tryd.prog noG 58 [.ptr 0 0, .lit (.int .u64 u), .lit (.bool sg)] [FR st sh] (.own 1 0 out.length none) [FR st' sh, .bytes 5 out] := by
  have e : sizesOf u [(204, 1), (205, 2), (206, 4), (207, 8)] = [(205, 2), (206, 4), (207, 8)] := by
    have t1 : decide (u < 256) = false := by simp; omega
    have t2 : decide (u < 65536) = true := by simp; omega
    have t3 : decide (u < 4294967296) = true := by simp; omega
    simp [sizesOf, fitB, t1, t2, t3]
  have hz := sizes4f u (by omega)
  rw [e] at hz
  have w1 : IntKind.u64.wrap u = u := by rw [wrapU64]; omega
  have hneg : (bif sg then decide (IntKind.i64.wrap u < 0) else false) = false := by
    cases sg with
    | false => rfl
    | true => have := hs rfl; rw [wrap64 (by omega) (by omega)]; simp; omega
  have hno : ¬ (sg = true ∧ 9223372036854775808 ≤ u) := fun h => by have := hs h.1; omega
  obtain ⟨k, st', hk, hp⟩ := pickC 6 st sh (by omega) (by omega)
  have f0 : fget [(205, 2), (206, 4), (207, 8)] 0 = (205, 2) := rfl
  have c0 := headC 205 2 u (by omega)
  have f1 : fget [(205, 2), (206, 4), (207, 8)] 1 = (206, 4) := rfl
  have c1 := headC 206 4 u (by omega)
  have f2 : fget [(205, 2), (206, 4), (207, 8)] 2 = (207, 8) := rfl
  have c2 := headC 207 8 u (by omega)
  have b2 := bigC u 2 (by omega)
  have m2 : (bigL u 2).length = 2 := bigL_len u 2
  have b4 := bigC u 4 (by omega)
  have m4 : (bigL u 4).length = 4 := bigL_len u 4
  have b8 := bigC u 8 (by omega)
  have m8 : (bigL u 8).length = 8 := bigL_len u 8
  have run := fun x hx => gpi2 u st st' sh sg (fun i => (fget [(205, 2), (206, 4), (207, 8)] i).1) (fun i => (fget [(205, 2), (206, 4), (207, 8)] i).2) (fun i => headL (fget [(205, 2), (206, 4), (207, 8)] i).1 (fget [(205, 2), (206, 4), (207, 8)] i).2 u) (fun i => bigL u i) k x ⟨hx, by (simp only [AllP, leAll, Le_self, w1, f0, f1, f2,  and_true, true_and]; repeat' (first | with_reducible apply And.intro | assumption | exact trivial | omega | (simp; done) | (simp <;> omega)))⟩
  rcases (show k = 0 ∨ k = 1 ∨ k = 2 ∨ k = 3 ∨ k = 4 ∨ k = 5 by omega) with rfl | rfl | rfl | rfl | rfl | rfl
  · exact ⟨headL 205 2 u, st', by unfold IntOut; rw [if_neg hno]; exact .inr (.inl ⟨_, by rw [e]; exact List.mem_of_getElem? (i := 0) rfl, rfl⟩), run _ (by simp [nth, ofNatU8, fget, bigL_len, Nat.add_comm])⟩
  · exact ⟨headL 206 4 u, st', by unfold IntOut; rw [if_neg hno]; exact .inr (.inl ⟨_, by rw [e]; exact List.mem_of_getElem? (i := 1) rfl, rfl⟩), run _ (by simp [nth, ofNatU8, fget, bigL_len, Nat.add_comm])⟩
  · exact ⟨headL 207 8 u, st', by unfold IntOut; rw [if_neg hno]; exact .inr (.inl ⟨_, by rw [e]; exact List.mem_of_getElem? (i := 2) rfl, rfl⟩), run _ (by simp [nth, ofNatU8, fget, bigL_len, Nat.add_comm])⟩
  · exact ⟨UInt8.ofNat (208 + 1) :: bigL u 2, st', by unfold IntOut; rw [if_neg hno]; exact .inr (.inr ⟨1, 2, by simp, by omega, rfl⟩), run _ (by simp [nth, ofNatU8, fget, bigL_len, Nat.add_comm])⟩
  · exact ⟨UInt8.ofNat (208 + 2) :: bigL u 4, st', by unfold IntOut; rw [if_neg hno]; exact .inr (.inr ⟨2, 4, by simp, by omega, rfl⟩), run _ (by simp [nth, ofNatU8, fget, bigL_len, Nat.add_comm])⟩
  · exact ⟨UInt8.ofNat (208 + 3) :: bigL u 8, st', by unfold IntOut; rw [if_neg hno]; exact .inr (.inr ⟨3, 8, by simp, by omega, rfl⟩), run _ (by simp [nth, ofNatU8, fget, bigL_len, Nat.add_comm])⟩

theorem int_pi3 (u st : Int) (sh sg : Bool) (h0 : 32768 ≤ u) (h1 : u < 65536) (hs : sg = true → u < 9223372036854775808) : ∃ out st', IntOut u sg out ∧ ACalls Tryd.prog noG 58 [.ptr 0 0, .lit (.int .u64 u), .lit (.bool sg)] [FR st sh] (.own 1 0 out.length none) [FR st' sh, .bytes 5 out] := by
  have e : sizesOf u [(204, 1), (205, 2), (206, 4), (207, 8)] = [(205, 2), (206, 4), (207, 8)] := by
    have t1 : decide (u < 256) = false := by simp; omega
    have t2 : decide (u < 65536) = true := by simp; omega
    have t3 : decide (u < 4294967296) = true := by simp; omega
    simp [sizesOf, fitB, t1, t2, t3]
  have hz := sizes4f u (by omega)
  rw [e] at hz
  have w1 : IntKind.u64.wrap u = u := by rw [wrapU64]; omega
  have hneg : (bif sg then decide (IntKind.i64.wrap u < 0) else false) = false := by
    cases sg with
    | false => rfl
    | true => have := hs rfl; rw [wrap64 (by omega) (by omega)]; simp; omega
  have hno : ¬ (sg = true ∧ 9223372036854775808 ≤ u) := fun h => by have := hs h.1; omega
  obtain ⟨k, st', hk, hp⟩ := pickC 5 st sh (by omega) (by omega)
  have f0 : fget [(205, 2), (206, 4), (207, 8)] 0 = (205, 2) := rfl
  have c0 := headC 205 2 u (by omega)
  have f1 : fget [(205, 2), (206, 4), (207, 8)] 1 = (206, 4) := rfl
  have c1 := headC 206 4 u (by omega)
  have f2 : fget [(205, 2), (206, 4), (207, 8)] 2 = (207, 8) := rfl
  have c2 := headC 207 8 u (by omega)
  have b4 := bigC u 4 (by omega)
  have m4 : (bigL u 4).length = 4 := bigL_len u 4
  have b8 := bigC u 8 (by omega)
  have m8 : (bigL u 8).length = 8 := bigL_len u 8
  have run := fun x hx => gpi3 u st st' sh sg (fun i => (fget [(205, 2), (206, 4), (207, 8)] i).1) (fun i => (fget [(205, 2), (206, 4), (207, 8)] i).2) (fun i => headL (fget [(205, 2), (206, 4), (207, 8)] i).1 (fget [(205, 2), (206, 4), (207, 8)] i).2 u) (fun i => bigL u i) k x ⟨hx, by (simp only [AllP, leAll, Le_self, w1, f0, f1, f2,  and_true, true_and]; repeat' (first | with_reducible apply And.intro | assumption | exact trivial | omega | (simp; done) | (simp <;> omega)))⟩
  rcases (show k = 0 ∨ k = 1 ∨ k = 2 ∨ k = 3 ∨ k = 4 by omega) with rfl | rfl | rfl | rfl | rfl
  · exact ⟨headL 205 2 u, st', by unfold IntOut; rw [if_neg hno]; exact .inr (.inl ⟨_, by rw [e]; exact List.mem_of_getElem? (i := 0) rfl, rfl⟩), run _ (by simp [nth, ofNatU8, fget, bigL_len, Nat.add_comm])⟩
  · exact ⟨headL 206 4 u, st', by unfold IntOut; rw [if_neg hno]; exact .inr (.inl ⟨_, by rw [e]; exact List.mem_of_getElem? (i := 1) rfl, rfl⟩), run _ (by simp [nth, ofNatU8, fget, bigL_len, Nat.add_comm])⟩
  · exact ⟨headL 207 8 u, st', by unfold IntOut; rw [if_neg hno]; exact .inr (.inl ⟨_, by rw [e]; exact List.mem_of_getElem? (i := 2) rfl, rfl⟩), run _ (by simp [nth, ofNatU8, fget, bigL_len, Nat.add_comm])⟩
  · exact ⟨UInt8.ofNat (208 + 2) :: bigL u 4, st', by unfold IntOut; rw [if_neg hno]; exact .inr (.inr ⟨2, 4, by simp, by omega, rfl⟩), run _ (by simp [nth, ofNatU8, fget, bigL_len, Nat.add_comm])⟩
  · exact ⟨UInt8.ofNat (208 + 3) :: bigL u 8, st', by unfold IntOut; rw [if_neg hno]; exact .inr (.inr ⟨3, 8, by simp, by omega, rfl⟩), run _ (by simp [nth, ofNatU8, fget, bigL_len, Nat.add_comm])⟩

theorem int_pi4 (u st : Int) (sh sg : Bool) (h0 : 65536 ≤ u) (h1 : u < 2147483648) (hs : sg = true → u < 9223372036854775808) : ∃ out st', IntOut u sg out ∧ ACalls Tryd.prog noG 58 [.ptr 0 0, .lit (.int .u64 u), .lit (.bool sg)] [FR st sh] (.own 1 0 out.length none) [FR st' sh, .bytes 5 out] := by
  have e : sizesOf u [(204, 1), (205, 2), (206, 4), (207, 8)] = [(206, 4), (207, 8)] := by
    have t1 : decide (u < 256) = false := by simp; omega
    have t2 : decide (u < 65536) = false := by simp; omega
    have t3 : decide (u < 4294967296) = true := by simp; omega
    simp [sizesOf, fitB, t1, t2, t3]
  have hz := sizes4f u (by omega)
  rw [e] at hz
  have w1 : IntKind.u64.wrap u = u := by rw [wrapU64]; omega
  have hneg : (bif sg then decide (IntKind.i64.wrap u < 0) else false) = false := by
    cases sg with
    | false => rfl
    | true => have := hs rfl; rw [wrap64 (by omega) (by omega)]; simp; omega
  have hno : ¬ (sg = true ∧ 9223372036854775808 ≤ u) := fun h => by have := hs h.1; omega
  obtain ⟨k, st', hk, hp⟩ := pickC 4 st sh (by omega) (by omega)
  have f0 : fget [(206, 4), (207, 8)] 0 = (206, 4) := rfl
  have c0 := headC 206 4 u (by omega)
  have f1 : fget [(206, 4), (207, 8)] 1 = (207, 8) := rfl
  have c1 := headC 207 8 u (by omega)
  have b4 := bigC u 4 (by omega)
  have m4 : (bigL u 4).length = 4 := bigL_len u 4
  have b8 := bigC u 8 (by omega)
  have m8 : (bigL u 8).length = 8 := bigL_len u 8
  have run := fun x hx => gpi4 u st st' sh sg (fun i => (fget [(206, 4), (207, 8)] i).1) (fun i => (fget [(206, 4), (207, 8)] i).2) (fun i => headL (fget [(206, 4), (207, 8)] i).1 (fget [(206, 4), (207, 8)] i).2 u) (fun i => bigL u i) k x ⟨hx, by (simp only [AllP, leAll, Le_self, w1, f0, f1,  and_true, true_and]; repeat' (first | with_reducible apply And.intro | assumption | exact trivial | omega | (simp; done) | (simp <;> omega)))⟩
  rcases (show k = 0 ∨ k = 1 ∨ k = 2 ∨ k = 3 by omega) with rfl | rfl | rfl | rfl
  · exact ⟨headL 206 4 u, st', by unfold IntOut; rw [if_neg hno]; exact .inr (.inl ⟨_, by rw [e]; exact List.mem_of_getElem? (i := 0) rfl, rfl⟩), run _ (by simp [nth, ofNatU8, fget, bigL_len, Nat.add_comm])⟩
  · exact ⟨headL 207 8 u, st', by unfold IntOut; rw [if_neg hno]; exact .inr (.inl ⟨_, by rw [e]; exact List.mem_of_getElem? (i := 1) rfl, rfl⟩), run _ (by simp [nth, ofNatU8, fget, bigL_len, Nat.add_comm])⟩
  · exact ⟨UInt8.ofNat (208 + 2) :: bigL u 4, st', by unfold IntOut; rw [if_neg hno]; exact .inr (.inr ⟨2, 4, by simp, by omega, rfl⟩), run _ (by simp [nth, ofNatU8, fget, bigL_len, Nat.add_comm])⟩
  · exact ⟨UInt8.ofNat (208 + 3) :: bigL u 8, st', by unfold IntOut; rw [if_neg hno]; exact .inr (.inr ⟨3, 8, by simp, by omega, rfl⟩), run _ (by simp [nth, ofNatU8, fget, bigL_len, Nat.add_comm])⟩

theorem int_pi5 (u st : Int) (sh sg : Bool) (h0 : 2147483648 ≤ u) (h1 : u < 4294967296) (hs : sg = true → u < 9223372036854775808) : ∃ out st', IntOut u sg out ∧ ACalls Tryd.prog noG 58 [.ptr 0 0, .lit (.int .u64 u), .lit (.bool sg)] [FR st sh] (.own 1 0 out.length none) [FR st' sh, .bytes 5 out] := by
  have e : sizesOf u [(204, 1), (205, 2), (206, 4), (207, 8)] = [(206, 4), (207, 8)] := by
    have t1 : decide (u < 256) = false := by simp; omega
    have t2 : decide (u < 65536) = false := by simp; omega
    have t3 : decide (u < 4294967296) = true := by simp; omega
    simp [sizesOf, fitB, t1, t2, t3]
  have hz := sizes4f u (by omega)
  rw [e] at hz
  have w1 : IntKind.u64.wrap u = u := by rw [wrapU64]; omega
  have hneg : (bif sg then decide (IntKind.i64.wrap u < 0) else false) = false := by
    cases sg with
    | false => rfl
    | true => have := hs rfl; rw [wrap64 (by omega) (by omega)]; simp; omega
  have hno : ¬ (sg = true ∧ 9223372036854775808 ≤ u) := fun h => by have := hs h.1; omega
  obtain ⟨k, st', hk, hp⟩ := pickC 3 st sh (by omega) (by omega)
  have f0 : fget [(206, 4), (207, 8)] 0 = (206, 4) := rfl
  have c0 := headC 206 4 u (by omega)
  have f1 : fget [(206, 4), (207, 8)] 1 = (207, 8) := rfl
  have c1 := headC 207 8 u (by omega)
  have b8 := bigC u 8 (by omega)
  have m8 : (bigL u 8).length = 8 := bigL_len u 8
  have run := fun x hx => gpi5 u st st' sh sg (fun i => (fget [(206, 4), (207, 8)] i).1) (fun i => (fget [(206, 4), (207, 8)] i).2) (fun i => headL (fget [(206, 4), (207, 8)] i).1 (fget [(206, 4), (207, 8)] i).2 u) (fun i => bigL u i) k x ⟨hx, by (simp only [AllP, leAll, Le_self, w1, f0, f1,  and_true, true_and]; repeat' (first | with_reducible apply And.intro | assumption | exact trivial | omega | (simp; done) | (simp <;> omega)))⟩
  rcases (show k = 0 ∨ k = 1 ∨ k = 2 by omega) with rfl | rfl | rfl
  · exact ⟨headL 206 4 u, st', by unfold IntOut; rw [if_neg hno]; exact .inr (.inl ⟨_, by rw [e]; exact List.mem_of_getElem? (i := 0) rfl, rfl⟩), run _ (by simp [nth, ofNatU8, fget, bigL_len, Nat.add_comm])⟩
  · exact ⟨headL 207 8 u, st', by unfold IntOut; rw [if_neg hno]; exact .inr (.inl ⟨_, by rw [e]; exact List.mem_of_getElem? (i := 1) rfl, rfl⟩), run _ (by simp [nth, ofNatU8, fget, bigL_len, Nat.add_comm])⟩
  · exact ⟨UInt8.ofNat (208 + 3) :: bigL u 8, st', by unfold IntOut; rw [if_neg hno]; exact .inr (.inr ⟨3, 8, by simp, by omega, rfl⟩), run _ (by simp [nth, ofNatU8, fget, bigL_len, Nat.add_comm])⟩

theorem int_pi6 (u st : Int) (sh sg : Bool) (h0 : 4294967296 ≤ u) (h1 : u < 9223372036854775808) (hs : sg = true → u < 9223372036854775808) : ∃ out st', IntOut u sg out ∧ ACalls Tryd.prog noG 58 [.ptr 0 0, .lit (.int .u64 u), .lit (.bool sg)] [FR st sh] (.own 1 0 out.length none) [FR st' sh, .bytes 5 out] := by
  have e : sizesOf u [(204, 1), (205, 2), (206, 4), (207, 8)] = [(207, 8)] := by
    have t1 : decide (u < 256) = false := by simp; omega
    have t2 : decide (u < 65536) = false := by simp; omega
    have t3 : decide (u < 4294967296) = false := by simp; omega
    simp [sizesOf, fitB, t1, t2, t3]
  have hz := sizes4f u (by omega)
  rw [e] at hz
  have w1 : IntKind.u64.wrap u = u := by rw [wrapU64]; omega
  have hneg : (bif sg then decide (IntKind.i64.wrap u < 0) else false) = false := by
    cases sg with
    | false => rfl
    | true => have := hs rfl; rw [wrap64 (by omega) (by omega)]; simp; omega
  have hno : ¬ (sg = true ∧ 9223372036854775808 ≤ u) := fun h => by have := hs h.1; omega
  obtain ⟨k, st', hk, hp⟩ := pickC 2 st sh (by omega) (by omega)
  have f0 : fget [(207, 8)] 0 = (207, 8) := rfl
  have c0 := headC 207 8 u (by omega)
  have b8 := bigC u 8 (by omega)
  have m8 : (bigL u 8).length = 8 := bigL_len u 8
  have run := fun x hx => gpi6 u st st' sh sg (fun i => (fget [(207, 8)] i).1) (fun i => (fget [(207, 8)] i).2) (fun i => headL (fget [(207, 8)] i).1 (fget [(207, 8)] i).2 u) (fun i => bigL u i) k x ⟨hx, by (simp only [AllP, leAll, Le_self, w1, f0,  and_true, true_and]; repeat' (first | with_reducible apply And.intro | assumption | exact trivial | omega | (simp; done) | (simp <;> omega)))⟩
  rcases (show k = 0 ∨ k = 1 by omega) with rfl | rfl
  · exact ⟨headL 207 8 u, st', by unfold IntOut; rw [if_neg hno]; exact .inr (.inl ⟨_, by rw [e]; exact List.mem_of_getElem? (i := 0) rfl, rfl⟩), run _ (by simp [nth, ofNatU8, fget, bigL_len, Nat.add_comm])⟩
  · exact ⟨UInt8.ofNat (208 + 3) :: bigL u 8, st', by unfold IntOut; rw [if_neg hno]; exact .inr (.inr ⟨3, 8, by simp, by omega, rfl⟩), run _ (by simp [nth, ofNatU8, fget, bigL_len, Nat.add_comm])⟩

theorem int_pi7 (u st : Int) (sh sg : Bool) (h0 : 9223372036854775808 ≤ u) (h1 : u < 18446744073709551616) (hs : sg = true → u < 9223372036854775808) : ∃ out st', IntOut u sg out ∧ ACalls Tryd.prog noG 58 [.ptr 0 0, .lit (.int .u64 u), .lit (.bool sg)] [FR st sh] (.own 1 0 out.length none) [FR st' sh, .bytes 5 out] := by
  have e : sizesOf u [(204, 1), (205, 2), (206, 4), (207, 8)] = [(207, 8)] := by
    have t1 : decide (u < 256) = false := by simp; omega
    have t2 : decide (u < 65536) = false := by simp; omega
    have t3 : decide (u < 4294967296) = false := by simp; omega
    simp [sizesOf, fitB, t1, t2, t3]
  have hz := sizes4f u (by omega)
  rw [e] at hz
  have w1 : IntKind.u64.wrap u = u := by rw [wrapU64]; omega
  have hneg : (bif sg then decide (IntKind.i64.wrap u < 0) else false) = false := by
    cases sg with
    | false => rfl
    | true => have := hs rfl; rw [wrap64 (by omega) (by omega)]; simp; omega
  have hno : ¬ (sg = true ∧ 9223372036854775808 ≤ u) := fun h => by have := hs h.1; omega
  obtain ⟨k, st', hk, hp⟩ := pickC 1 st sh (by omega) (by omega)
  have f0 : fget [(207, 8)] 0 = (207, 8) := rfl
  have c0 := headC 207 8 u (by omega)
  have run := fun x hx => gpi7 u st st' sh sg (fun i => (fget [(207, 8)] i).1) (fun i => (fget [(207, 8)] i).2) (fun i => headL (fget [(207, 8)] i).1 (fget [(207, 8)] i).2 u) (fun i => bigL u i) k x ⟨hx, by (simp only [AllP, leAll, Le_self, w1, f0,  and_true, true_and]; repeat' (first | with_reducible apply And.intro | assumption | exact trivial | omega | (simp; done) | (simp <;> omega)))⟩
  rcases (show k = 0 by omega) with rfl
  · exact ⟨headL 207 8 u, st', by unfold IntOut; rw [if_neg hno]; exact .inr (.inl ⟨_, by rw [e]; exact List.mem_of_getElem? (i := 0) rfl, rfl⟩), run _ (by simp [nth, ofNatU8, fget, bigL_len, Nat.add_comm])⟩

theorem int_ni0 (u st : Int) (sh : Bool) (h0 : 18446744073709551584 ≤ u) (h1 : u < 18446744073709551616) : ∃ out st', IntOut u true out ∧ ACalls Tryd.prog noG 58 [.ptr 0 0, .lit (.int .u64 u), .lit (.bool true)] [FR st sh] (.own 1 0 out.length none) [FR st' sh, .bytes 5 out] := by
  have w1 : IntKind.i64.wrap u = u - 18446744073709551616 := by rw [wrapI64]; omega
  have hyes : (true = true ∧ 9223372036854775808 ≤ u) := ⟨rfl, by omega⟩
  obtain ⟨k, st', hk, hp⟩ := pickC 5 st sh (by omega) (by omega)
  have b1 := bigC u 1 (by omega)
  have m1 : (bigL u 1).length = 1 := bigL_len u 1
  have b2 := bigC u 2 (by omega)
  have m2 : (bigL u 2).length = 2 := bigL_len u 2
  have b4 := bigC u 4 (by omega)
  have m4 : (bigL u 4).length = 4 := bigL_len u 4
  have b8 := bigC u 8 (by omega)
  have m8 : (bigL u 8).length = 8 := bigL_len u 8
  have run := fun x hx => gni0 u st st' sh true (fun _ => 0) (fun _ => 0) (fun _ => []) (fun i => bigL u i) k x ⟨hx, by (simp only [AllP, leAll, Le_self, w1,  and_true, true_and]; repeat' (first | with_reducible apply And.intro | assumption | exact trivial | omega | (simp; done) | (simp <;> omega)))⟩
  rcases (show k = 0 ∨ k = 1 ∨ k = 2 ∨ k = 3 ∨ k = 4 by omega) with rfl | rfl | rfl | rfl | rfl
  · exact ⟨[byteI u], st', by unfold IntOut; rw [if_pos hyes]; exact .inl ⟨by omega, rfl⟩, run _ (by simp [nth, ofNatU8, w1, byteI, bigL_len, Nat.add_comm, Int.sub_emod])⟩
  · exact ⟨UInt8.ofNat (208 + 0) :: bigL u 1, st', by unfold IntOut; rw [if_pos hyes]; exact .inr ⟨0, 1, by simp, by omega, rfl⟩, run _ (by simp [nth, ofNatU8, w1, byteI, bigL_len, Nat.add_comm, Int.sub_emod])⟩
  · exact ⟨UInt8.ofNat (208 + 1) :: bigL u 2, st', by unfold IntOut; rw [if_pos hyes]; exact .inr ⟨1, 2, by simp, by omega, rfl⟩, run _ (by simp [nth, ofNatU8, w1, byteI, bigL_len, Nat.add_comm, Int.sub_emod])⟩
  · exact ⟨UInt8.ofNat (208 + 2) :: bigL u 4, st', by unfold IntOut; rw [if_pos hyes]; exact .inr ⟨2, 4, by simp, by omega, rfl⟩, run _ (by simp [nth, ofNatU8, w1, byteI, bigL_len, Nat.add_comm, Int.sub_emod])⟩
  · exact ⟨UInt8.ofNat (208 + 3) :: bigL u 8, st', by unfold IntOut; rw [if_pos hyes]; exact .inr ⟨3, 8, by simp, by omega, rfl⟩, run _ (by simp [nth, ofNatU8, w1, byteI, bigL_len, Nat.add_comm, Int.sub_emod])⟩

theorem int_ni1 (u st : Int) (sh : Bool) (h0 : 18446744073709551488 ≤ u) (h1 : u < 18446744073709551584) : ∃ out st', IntOut u true out ∧ ACalls Tryd.prog noG 58 [.ptr 0 0, .lit (.int .u64 u), .lit (.bool true)] [FR st sh] (.own 1 0 out.length none) [FR st' sh, .bytes 5 out] := by
  have w1 : IntKind.i64.wrap u = u - 18446744073709551616 := by rw [wrapI64]; omega
  have hyes : (true = true ∧ 9223372036854775808 ≤ u) := ⟨rfl, by omega⟩
  obtain ⟨k, st', hk, hp⟩ := pickC 4 st sh (by omega) (by omega)
  have b1 := bigC u 1 (by omega)
  have m1 : (bigL u 1).length = 1 := bigL_len u 1
  have b2 := bigC u 2 (by omega)
  have m2 : (bigL u 2).length = 2 := bigL_len u 2
  have b4 := bigC u 4 (by omega)
  have m4 : (bigL u 4).length = 4 := bigL_len u 4
  have b8 := bigC u 8 (by omega)
  have m8 : (bigL u 8).length = 8 := bigL_len u 8
  have run := fun x hx => gni1 u st st' sh true (fun _ => 0) (fun _ => 0) (fun _ => []) (fun i => bigL u i) k x ⟨hx, by (simp only [AllP, leAll, Le_self, w1,  and_true, true_and]; repeat' (first | with_reducible apply And.intro | assumption | exact trivial | omega | (simp; done) | (simp <;> omega)))⟩
  rcases (show k = 0 ∨ k = 1 ∨ k = 2 ∨ k = 3 by omega) with rfl | rfl | rfl | rfl
  · exact ⟨UInt8.ofNat (208 + 0) :: bigL u 1, st', by unfold IntOut; rw [if_pos hyes]; exact .inr ⟨0, 1, by simp, by omega, rfl⟩, run _ (by simp [nth, ofNatU8, w1, byteI, bigL_len, Nat.add_comm, Int.sub_emod])⟩
  · exact ⟨UInt8.ofNat (208 + 1) :: bigL u 2, st', by unfold IntOut; rw [if_pos hyes]; exact .inr ⟨1, 2, by simp, by omega, rfl⟩, run _ (by simp [nth, ofNatU8, w1, byteI, bigL_len, Nat.add_comm, Int.sub_emod])⟩
  · exact ⟨UInt8.ofNat (208 + 2) :: bigL u 4, st', by unfold IntOut; rw [if_pos hyes]; exact .inr ⟨2, 4, by simp, by omega, rfl⟩, run _ (by simp [nth, ofNatU8, w1, byteI, bigL_len, Nat.add_comm, Int.sub_emod])⟩
  · exact ⟨UInt8.ofNat (208 + 3) :: bigL u 8, st', by unfold IntOut; rw [if_pos hyes]; exact .inr ⟨3, 8, by simp, by omega, rfl⟩, run _ (by simp [nth, ofNatU8, w1, byteI, bigL_len, Nat.add_comm, Int.sub_emod])⟩

theorem int_ni2 (u st : Int) (sh : Bool) (h0 : 18446744073709518848 ≤ u) (h1 : u < 18446744073709551488) : ∃ out st', IntOut u true out ∧ ACalls Tryd.prog noG 58 [.ptr 0 0, .lit (.int .u64 u), .lit (.bool true)] [FR st sh] (.own 1 0 out.length none) [FR st' sh, .bytes 5 out] := by
  have w1 : IntKind.i64.wrap u = u - 18446744073709551616 := by rw [wrapI64]; omega
  have hyes : (true = true ∧ 9223372036854775808 ≤ u) := ⟨rfl, by omega⟩
  obtain ⟨k, st', hk, hp⟩ := pickC 3 st sh (by omega) (by omega)
  have b2 := bigC u 2 (by omega)
  have m2 : (bigL u 2).length = 2 := bigL_len u 2
  have b4 := bigC u 4 (by omega)
  have m4 : (bigL u 4).length = 4 := bigL_len u 4
  have b8 := bigC u 8 (by omega)
  have m8 : (bigL u 8).length = 8 := bigL_len u 8
  have run := fun x hx => gni2 u st st' sh true (fun _ => 0) (fun _ => 0) (fun _ => []) (fun i => bigL u i) k x ⟨hx, by (simp only [AllP, leAll, Le_self, w1,  and_true, true_and]; repeat' (first | with_reducible apply And.intro | assumption | exact trivial | omega | (simp; done) | (simp <;> omega)))⟩
  rcases (show k = 0 ∨ k = 1 ∨ k = 2 by omega) with rfl | rfl | rfl
  · exact ⟨UInt8.ofNat (208 + 1) :: bigL u 2, st', by unfold IntOut; rw [if_pos hyes]; exact .inr ⟨1, 2, by simp, by omega, rfl⟩, run _ (by simp [nth, ofNatU8, w1, byteI, bigL_len, Nat.add_comm, Int.sub_emod])⟩
  · exact ⟨UInt8.ofNat (208 + 2) :: bigL u 4, st', by unfold IntOut; rw [if_pos hyes]; exact .inr ⟨2, 4, by simp, by omega, rfl⟩, run _ (by simp [nth, ofNatU8, w1, byteI, bigL_len, Nat.add_comm, Int.sub_emod])⟩
  · exact ⟨UInt8.ofNat (208 + 3) :: bigL u 8, st', by unfold IntOut; rw [if_pos hyes]; exact .inr ⟨3, 8, by simp, by omega, rfl⟩, run _ (by simp [nth, ofNatU8, w1, byteI, bigL_len, Nat.add_comm, Int.sub_emod])⟩

theorem int_ni3 (u st : Int) (sh : Bool) (h0 : 18446744071562067968 ≤ u) (h1 : u < 18446744073709518848) : ∃ out st', IntOut u true out ∧ ACalls Tryd.prog noG 58 [.ptr 0 0, .lit (.int .u64 u), .lit (.bool true)] [FR st sh] (.own 1 0 out.length none) [FR st' sh, .bytes 5 out] := by
  have w1 : IntKind.i64.wrap u = u - 18446744073709551616 := by rw [wrapI64]; omega
  have hyes : (true = true ∧ 9223372036854775808 ≤ u) := ⟨rfl, by omega⟩
  obtain ⟨k, st', hk, hp⟩ := pickC 2 st sh (by omega) (by omega)
  have b4 := bigC u 4 (by omega)
  have m4 : (bigL u 4).length = 4 := bigL_len u 4
  have b8 := bigC u 8 (by omega)
  have m8 : (bigL u 8).length = 8 := bigL_len u 8
  have run := fun x hx => gni3 u st st' sh true (fun _ => 0) (fun _ => 0) (fun _ => []) (fun i => bigL u i) k x ⟨hx, by (simp only [AllP, leAll, Le_self, w1,  and_true, true_and]; repeat' (first | with_reducible apply And.intro | assumption | exact trivial | omega | (simp; done) | (simp <;> omega)))⟩
  rcases (show k = 0 ∨ k = 1 by omega) with rfl | rfl
  · exact ⟨UInt8.ofNat (208 + 2) :: bigL u 4, st', by unfold IntOut; rw [if_pos hyes]; exact .inr ⟨2, 4, by simp, by omega, rfl⟩, run _ (by simp [nth, ofNatU8, w1, byteI, bigL_len, Nat.add_comm, Int.sub_emod])⟩
  · exact ⟨UInt8.ofNat (208 + 3) :: bigL u 8, st', by unfold IntOut; rw [if_pos hyes]; exact .inr ⟨3, 8, by simp, by omega, rfl⟩, run _ (by simp [nth, ofNatU8, w1, byteI, bigL_len, Nat.add_comm, Int.sub_emod])⟩

theorem int_ni4 (u st : Int) (sh : Bool) (h0 : 9223372036854775808 ≤ u) (h1 : u < 18446744071562067968) : ∃ out st', IntOut u true out ∧ ACalls Tryd.prog noG 58 [.ptr 0 0, .lit (.int .u64 u), .lit (.bool true)] [FR st sh] (.own 1 0 out.length none) [FR st' sh, .bytes 5 out] := by
  have w1 : IntKind.i64.wrap u = u - 18446744073709551616 := by rw [wrapI64]; omega
  have hyes : (true = true ∧ 9223372036854775808 ≤ u) := ⟨rfl, by omega⟩
  obtain ⟨k, st', hk, hp⟩ := pickC 1 st sh (by omega) (by omega)
  have b8 := bigC u 8 (by omega)
  have m8 : (bigL u 8).length = 8 := bigL_len u 8
  have run := fun x hx => gni4 u st st' sh true (fun _ => 0) (fun _ => 0) (fun _ => []) (fun i => bigL u i) k x ⟨hx, by (simp only [AllP, leAll, Le_self, w1,  and_true, true_and]; repeat' (first | with_reducible apply And.intro | assumption | exact trivial | omega | (simp; done) | (simp <;> omega)))⟩
  rcases (show k = 0 by omega) with rfl
  · exact ⟨UInt8.ofNat (208 + 3) :: bigL u 8, st', by unfold IntOut; rw [if_pos hyes]; exact .inr ⟨3, 8, by simp, by omega, rfl⟩, run _ (by simp [nth, ofNatU8, w1, byteI, bigL_len, Nat.add_comm, Int.sub_emod])⟩

theorem putIntC (u st : Int) (sh sg : Bool) (h0 : 0 ≤ u) (h : u < 18446744073709551616) : ∃ out st', IntOut u sg out ∧ ACalls Tryd.prog noG 58 [.ptr 0 0, .lit (.int .u64 u), .lit (.bool sg)] [FR st sh] (.own 1 0 out.length none) [FR st' sh, .bytes 5 out] := by
  by_cases hn : sg = true ∧ 9223372036854775808 ≤ u
  · obtain ⟨rfl, hb⟩ := hn
    by_cases c0 : 18446744073709551584 ≤ u
    · exact int_ni0 u st sh c0 h
    by_cases c1 : 18446744073709551488 ≤ u
    · exact int_ni1 u st sh c1 (by omega)
    by_cases c2 : 18446744073709518848 ≤ u
    · exact int_ni2 u st sh c2 (by omega)
    by_cases c3 : 18446744071562067968 ≤ u
    · exact int_ni3 u st sh c3 (by omega)
    · exact int_ni4 u st sh hb (by omega)
  · have hs : sg = true → u < 9223372036854775808 := fun e => by
      apply Classical.byContradiction
      intro hc
      exact hn ⟨e, by omega⟩
    by_cases c0 : u < 128
    · exact int_pi0 u st sh sg h0 c0 hs
    by_cases c1 : u < 256
    · exact int_pi1 u st sh sg (by omega) c1 hs
    by_cases c2 : u < 32768
    · exact int_pi2 u st sh sg (by omega) c2 hs
    by_cases c3 : u < 65536
    · exact int_pi3 u st sh sg (by omega) c3 hs
    by_cases c4 : u < 2147483648
    · exact int_pi4 u st sh sg (by omega) c4 hs
    by_cases c5 : u < 4294967296
    · exact int_pi5 u st sh sg (by omega) c5 hs
    by_cases c6 : u < 9223372036854775808
    · exact int_pi6 u st sh sg (by omega) c6 hs
    · exact int_pi7 u st sh sg (by omega) h hs
end Go.Ax
