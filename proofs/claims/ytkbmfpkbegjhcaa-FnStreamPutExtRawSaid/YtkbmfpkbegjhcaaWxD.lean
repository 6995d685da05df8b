/-
  The Writer: a list that is written, one value behind the other.
-/
import Derived.Test.YtkbmfpkbegjhcaaWxC
set_option linter.unusedVariables false
set_option linter.unusedSimpArgs false
set_option maxRecDepth 100000
namespace Go.Ax
open Go.Proofs

theorem packM_rM (N n : Nat) (buf out : List UInt8) : packK 3 [some 0, some 1, some 2, some 4] (hL (rM N n buf out)) = true := rfl
theorem packM_rO (N n : Nat) (buf out : List UInt8) : packK 3 [some 0, some 1, some 2, some 3] (hL (rO N n buf out)) = true := rfl
theorem packM_rN (N n : Nat) (buf : List UInt8) : packK 3 [some 0, some 1, some 2] (hL (rN N n buf)) = true := rfl
theorem outM_rM (N n : Nat) (buf out : List UInt8) : outM (idxM [some 0, some 1, some 2, some 4] 0) (hL (rM N n buf out)) [some 0, some 1, some 2, some 4] = rO N n buf out := rfl
theorem outM_rO (N n : Nat) (buf out : List UInt8) : outM (idxM [some 0, some 1, some 2, some 3] 0) (hL (rO N n buf out)) [some 0, some 1, some 2, some 3] = rO N n buf out := rfl
theorem outM_rN (N n : Nat) (buf : List UInt8) : outM (idxM [some 0, some 1, some 2] 0) (hL (rN N n buf)) [some 0, some 1, some 2] = rN N n buf := rfl

/-- The slots of the loop: what does not change when rows are laid anew. -/
def stay (vals : List (Nat × AV)) : Prop :=
  renS (idxM [some 0, some 1, some 2, some 4] 0) vals = vals ∧ renS (idxM [some 0, some 1, some 2, some 3] 0) vals = vals ∧ renS (idxM [some 0, some 1, some 2] 0) vals = vals

section
variable {α : Type} {l : List α} {enc : α → List UInt8} {g : FuncId} {el : α → AV} {n0 : Nat} {c : Code} {sl : Nat → List (Nat × AV)} {vals' : List (Nat × AV)} {K : Nat}

theorem writtenO (hK : ∀ x ∈ l, (enc x).length ≤ K) (hw : ∀ x ∈ l, Writes g [el x] (enc x)) (hs : ∀ i, stay (sl i))
    (body : ∀ i (h : i < l.length) N n buf out n2 buf2 out2, ACalls Try.prog noG g [.ptr 0 0, el l[i]] (rO N n buf out) nilE (rM N n2 buf2 out2) → CodeC Try.prog noG n0 c (sl i) (rO N n buf out) .normal (sl (i + 1)) (rM N n2 buf2 out2))
    (ex : ∀ N n buf out, CodeC Try.prog noG n0 c (sl l.length) (rO N n buf out) (.exit 0) vals' (rO N n buf out)) :
    ∀ (k i : Nat), l.length - i = k → i ≤ l.length → ∀ N n buf out, 18 ≤ N → N ≤ 65536 → buf.length = N → n ≤ N → out.length + n + k * K ≤ bigO →
      ∃ out2 buf2 n2, buf2.length = N ∧ n2 ≤ N ∧ out2 ++ buf2.take n2 = out ++ buf.take n ++ (l.drop i).flatMap enc ∧ out2.length ≤ bigO ∧ LoopK Try.prog noG 3 n0 c (sl i) (rO N n buf out) (.exit 0) vals' (rO N n2 buf2 out2)
  | 0, i, hk, hi, N, n, buf, out, h18, hN, hb, hn, hbig => by
    have he : i = l.length := by omega
    subst he
    exact ⟨out, buf, n, hb, hn, by simp, by omega, LoopK.exit (ex N n buf out) (by simp)⟩
  | k + 1, i, hk, hi, N, n, buf, out, h18, hN, hb, hn, hbig => by
    have hlt : i < l.length := by omega
    obtain ⟨_, h2⟩ := hw l[i] (List.getElem_mem _) N n buf h18 hN hb hn
    have hx : (enc l[i]).length ≤ K := hK _ (List.getElem_mem _)
    obtain ⟨out1, buf1, n1, b1, b2, b3, b4⟩ := h2 out (by rw [Nat.add_mul] at hbig; omega)
    have hlen := congrArg List.length b3
    simp only [List.length_append, List.length_take] at hlen
    have hbig2 : out1.length + n1 + k * K ≤ bigO := by rw [Nat.add_mul] at hbig; omega
    obtain ⟨out2, buf2, n2, c1, c2, c3, c4, c5⟩ := writtenO hK hw hs body ex k (i + 1) (by omega) (by omega) N n1 buf1 out1 h18 hN b1 b2 hbig2
    refine ⟨out2, buf2, n2, c1, c2, ?_, c4, ?_⟩
    · rw [c3, b3, List.drop_eq_getElem_cons hlt, List.flatMap_cons]; simp
    · refine LoopK.step [some 0, some 1, some 2, some 4] (body i hlt N n buf out n1 buf1 out1 b4) (packM_rM N n1 buf1 out1) ?_
      rw [outM_rM, (hs (i + 1)).1]
      exact c5

theorem writtenN (hK : ∀ x ∈ l, (enc x).length ≤ K) (hw : ∀ x ∈ l, Writes g [el x] (enc x)) (hs : ∀ i, stay (sl i))
    (body : ∀ i (h : i < l.length) N n buf out n2 buf2 out2, ACalls Try.prog noG g [.ptr 0 0, el l[i]] (rO N n buf out) nilE (rM N n2 buf2 out2) → CodeC Try.prog noG n0 c (sl i) (rO N n buf out) .normal (sl (i + 1)) (rM N n2 buf2 out2))
    (ex : ∀ N n buf out, CodeC Try.prog noG n0 c (sl l.length) (rO N n buf out) (.exit 0) vals' (rO N n buf out))
    (bodyNN : ∀ i (h : i < l.length) N n buf n2 buf2, ACalls Try.prog noG g [.ptr 0 0, el l[i]] (rN N n buf) nilE (rN N n2 buf2) → CodeC Try.prog noG n0 c (sl i) (rN N n buf) .normal (sl (i + 1)) (rN N n2 buf2))
    (bodyNO : ∀ i (h : i < l.length) N n buf n2 buf2 out2, ACalls Try.prog noG g [.ptr 0 0, el l[i]] (rN N n buf) nilE (rO N n2 buf2 out2) → CodeC Try.prog noG n0 c (sl i) (rN N n buf) .normal (sl (i + 1)) (rO N n2 buf2 out2))
    (exN : ∀ N n buf, CodeC Try.prog noG n0 c (sl l.length) (rN N n buf) (.exit 0) vals' (rN N n buf)) :
    ∀ (k i : Nat), l.length - i = k → i ≤ l.length → ∀ N n buf, 18 ≤ N → N ≤ 65536 → buf.length = N → n ≤ N → n + k * K ≤ bigO →
      ∃ o2 buf2 n2, buf2.length = N ∧ n2 ≤ N ∧ cont o2 buf2 n2 = buf.take n ++ (l.drop i).flatMap enc ∧ (o2.getD []).length ≤ bigO ∧ LoopK Try.prog noG 3 n0 c (sl i) (rN N n buf) (.exit 0) vals' (rS N n2 buf2 o2)
  | 0, i, hk, hi, N, n, buf, h18, hN, hb, hn, hbig => by
    have he : i = l.length := by omega
    subst he
    exact ⟨none, buf, n, hb, hn, by simp [cont], by simp, LoopK.exit (exN N n buf) (by simp)⟩
  | k + 1, i, hk, hi, N, n, buf, h18, hN, hb, hn, hbig => by
    have hlt : i < l.length := by omega
    obtain ⟨⟨o1, buf1, n1, b1, b2, b3, b4⟩, _⟩ := hw l[i] (List.getElem_mem _) N n buf h18 hN hb hn
    have hx : (enc l[i]).length ≤ K := hK _ (List.getElem_mem _)
    cases o1 with
    | none =>
      have hlen := congrArg List.length b3
      simp only [cont, Option.getD_none, List.nil_append, List.length_append, List.length_take] at hlen
      have hbig2 : n1 + k * K ≤ bigO := by rw [Nat.add_mul] at hbig; omega
      obtain ⟨o2, buf2, n2, c1, c2, c3, c4, c5⟩ := writtenN hK hw hs body ex bodyNN bodyNO exN k (i + 1) (by omega) (by omega) N n1 buf1 h18 hN b1 b2 hbig2
      refine ⟨o2, buf2, n2, c1, c2, ?_, c4, ?_⟩
      · simp only [cont, Option.getD_none, List.nil_append] at b3
        rw [c3, b3, List.drop_eq_getElem_cons hlt, List.flatMap_cons]; simp
      · refine LoopK.step [some 0, some 1, some 2] (bodyNN i hlt N n buf n1 buf1 b4) (packM_rN N n1 buf1) ?_
        rw [outM_rN, (hs (i + 1)).2.2]
        exact c5
    | some out1 =>
      have hlen := congrArg List.length b3
      simp only [cont, Option.getD_some, List.length_append, List.length_take] at hlen
      have hbig2 : out1.length + n1 + k * K ≤ bigO := by rw [Nat.add_mul] at hbig; omega
      obtain ⟨out2, buf2, n2, c1, c2, c3, c4, c5⟩ := writtenO hK hw hs body ex k (i + 1) (by omega) (by omega) N n1 buf1 out1 h18 hN b1 b2 hbig2
      refine ⟨some out2, buf2, n2, c1, c2, ?_, c4, ?_⟩
      · simp only [cont, Option.getD_some] at b3 ⊢
        rw [c3, b3, List.drop_eq_getElem_cons hlt, List.flatMap_cons]; simp
      · refine LoopK.step [some 0, some 1, some 2, some 3] (bodyNO i hlt N n buf n1 buf1 out1 b4) (packM_rO N n1 buf1 out1) ?_
        rw [outM_rO, (hs (i + 1)).2.1]
        exact c5
end

theorem newWriter (N : Nat) (h18 : 18 ≤ N) (hN : N ≤ 65536) : ACalls Try.prog noG 28 [.ifc 71 (.ptr 0 0), .lit (.int .i64 N)] [tnil] (.ptr 1 0) [tnil, .cells 78 3 [.ifc 71 (.ptr 0 0), .own 2 0 N (some N), .lit (.int .i64 0)], .bytes 5 (List.replicate N 0)] :=
  nws N (by
    have h := nwb N (List.replicate N 0) (by simp [AllP]; omega)
    simp only [AllP, leAll, Int.toNat_natCast, Nat.sub_zero] at h ⊢
    refine ⟨h, ⟨Le.refl _, Le.refl _, trivial⟩, ⟨RowLe.refl _, RowLe.refl _, trivial⟩, ⟨by omega, Int.le_refl _, by omega⟩, by simp; omega, trivial⟩)

/-- The end: what is flushed. -/
theorem flushEndN (N n : Nat) (buf : List UInt8) (h0 : 0 < n) (hn : n ≤ N) (hN : buf.length = N) (hb : N ≤ bigO) : ACalls Try.prog noG 29 [.ptr 0 0] (rN N n buf) nilE (rO N 0 buf (buf.take n)) :=
  flm N n buf (buf.take n) (by have := flushN N n buf h0 hn hN hb; simp [AllP, leAll]; simpa [rN, rO, wrow, town, tnil, nilE] using this)
theorem flushEndN0 (N : Nat) (buf : List UInt8) : ACalls Try.prog noG 29 [.ptr 0 0] (rN N 0 buf) nilE (rN N 0 buf) :=
  fln N 0 buf (by have := flushN0 N buf; simp [AllP, leAll]; simpa [rN, rO, wrow, town, tnil, nilE] using this)
theorem flushEndO (N n : Nat) (buf out : List UInt8) (hn : n ≤ N) (hN : buf.length = N) (hb : N ≤ bigO) (ho : out.length ≤ bigO) : ACalls Try.prog noG 29 [.ptr 0 0] (rO N n buf out) nilE (rM N 0 buf (out ++ buf.take n)) := by
  rcases Nat.eq_zero_or_pos n with rfl | h0
  · refine flo N 0 buf out (out ++ buf.take 0) ?_
    have := flushO0 N buf out
    simp [AllP, leAll]
    simpa [rM, rO, wrow, town, tnil, nilE] using this
  · refine flo N n buf out (out ++ buf.take n) ?_
    have := flushO N n buf out h0 hn hN hb ho
    simp [AllP, leAll]
    simpa [rM, rO, wrow, town, tnil, nilE] using this
end Go.Ax
