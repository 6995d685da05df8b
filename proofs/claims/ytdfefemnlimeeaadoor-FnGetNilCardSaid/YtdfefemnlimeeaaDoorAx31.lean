/-
  An abstract machine for Go functions (part 31): loops that let a row grow; lists laid cell by cell.
-/
import Derived.Test.YtdfefemnlimeeaaDoorAx30
set_option linter.unusedVariables false
set_option linter.unusedSimpArgs false
namespace Go.Ax

theorem renL_app' (f : Nat → Option Nat) (a b : List AV) : AV.renL f (a ++ b) = AV.renL f a ++ AV.renL f b := by simp [AV.renL_map]
theorem closedL_app' : ∀ a b : List AV, AV.closedL (a ++ b) = (AV.closedL a && AV.closedL b)
  | [], b => by simp [AV.closedL]
  | x :: a, b => by simp [AV.closedL, closedL_app' a b, Bool.and_assoc]

/-! ### Less known, part by part -/
theorem leAll_at : ∀ {as bs : List AV}, leAll as bs → as.length = bs.length ∧ ∀ (j : Nat) a b, as[j]? = some a → bs[j]? = some b → Le a b
  | [], [], _ => ⟨rfl, fun j a b h => by simp at h⟩
  | x :: as, y :: bs, h => by
    obtain ⟨h1, h2⟩ := leAll_at h.2
    refine ⟨by simp [h1], fun j a b ha hb => ?_⟩
    cases j with
    | zero => simp at ha hb; subst ha; subst hb; exact h.1
    | succ j => simp at ha hb; exact h2 j a b ha hb
  | [], _ :: _, h => h.elim
  | _ :: _, [], h => h.elim

theorem Le_agg {as bs : List AV} (h : leAll as bs) : Le (.agg as) (.agg bs) := fun ρ hp O w v hv => by
  obtain ⟨h1, h2⟩ := leAll_at h
  cases hv with
  | dr hd =>
    cases hd with
    | agg hl hs =>
      refine .agg (by rw [← h1]; exact hl) fun j c v hc hv => ?_
      obtain ⟨hj, -⟩ := List.getElem?_eq_some_iff.1 hc
      have ha : as[j]? = some as[j] := List.getElem?_eq_getElem (by omega)
      exact h2 j _ _ ha hc _ _ _ _ _ (.dr (hs j _ v ha hv))
  | agg hl hs =>
    refine .agg (by rw [← h1]; exact hl) fun j c v hc hv => ?_
    obtain ⟨hj, -⟩ := List.getElem?_eq_some_iff.1 hc
    have ha : as[j]? = some as[j] := List.getElem?_eq_getElem (by omega)
    exact h2 j _ _ ha hc _ _ _ _ _ (hs j _ v ha hv)

theorem Le_tup {as bs : List AV} (h : leAll as bs) : Le (.tup as) (.tup bs) := fun ρ hp O w v hv => by
  obtain ⟨h1, h2⟩ := leAll_at h
  cases hv with
  | dr hd => cases hd
  | tup hl hs =>
    refine .tup (by rw [← h1]; exact hl) fun j c v hc hv => ?_
    obtain ⟨hj, -⟩ := List.getElem?_eq_some_iff.1 hc
    have ha : as[j]? = some as[j] := List.getElem?_eq_getElem (by omega)
    exact h2 j _ _ ha hc _ _ _ _ _ (hs j _ v ha hv)

theorem Le_nil_ro {sz : Nat} {get : Nat → List AV} : Le (.lit (.slice none 0 0)) (.ro sz 0 get) := fun ρ hp O w v hv => by rw [VR_lit hv]; exact .dr .ronil

/-! ### Lists, laid cell by cell -/
structure LCells {α : Type} (C : α → List AV) (s : Nat) : Prop where
  len : ∀ x, (C x).length = s
  ren : ∀ f x, AV.renL f (C x) = C x
  closed : ∀ x, AV.closedL (C x) = true

def flatC {α : Type} (C : α → List AV) (l : List α) : List AV := l.flatMap C

section
variable {α : Type} {C : α → List AV} {s : Nat} (h : LCells C s)
include h
theorem LCells.flatC_len (l : List α) : (flatC C l).length = l.length * s := by
  induction l with
  | nil => simp [flatC]
  | cons x l ih => simp only [flatC, List.flatMap_cons, List.length_append] at ih ⊢; rw [ih, h.len, List.length_cons, Nat.succ_mul, Nat.add_comm]
theorem LCells.flatC_ren (f : Nat → Option Nat) (l : List α) : AV.renL f (flatC C l) = flatC C l := by
  induction l with
  | nil => rfl
  | cons x l ih => simp only [flatC, List.flatMap_cons, renL_app'] at ih ⊢; rw [ih, h.ren]
theorem LCells.flatC_closed (l : List α) : AV.closedL (flatC C l) = true := by
  induction l with
  | nil => rfl
  | cons x l ih => simp only [flatC, List.flatMap_cons, closedL_app'] at ih ⊢; rw [ih, h.closed]; rfl
theorem LCells.flatC_get (l : List α) (i : Nat) (hi : i < l.length) : ((flatC C l).drop (0 + i * s)).take s = C l[i] := by
  induction l generalizing i with
  | nil => simp at hi
  | cons x l ih =>
    cases i with
    | zero => simp only [flatC, List.flatMap_cons, Nat.zero_mul, Nat.add_zero, List.drop_zero, List.getElem_cons_zero]; rw [← h.len x, List.take_left]
    | succ i =>
      have := ih i (by simpa using hi)
      simp only [flatC, List.flatMap_cons, Nat.zero_add] at this ⊢
      rw [show (i + 1) * s = (C x).length + i * s by rw [h.len, Nat.succ_mul, Nat.add_comm], ← List.drop_drop, List.drop_left]
      exact this
omit h in
theorem flatC_snoc (l : List α) (i : Nat) (hi : i < l.length) : flatC C (l.take (i + 1)) = flatC C (l.take i) ++ C l[i] := by
  simp only [flatC, List.take_succ_eq_append_getElem hi, List.flatMap_append, List.flatMap_cons, List.flatMap_nil, List.append_nil]
theorem LCells.flatC_take (l : List α) (i : Nat) (hi : i ≤ l.length) : List.take (i * s) (flatC C (l.take i)) = flatC C (l.take i) :=
  List.take_of_length_le (by rw [h.flatC_len, List.length_take, Nat.min_eq_left hi]; exact Nat.le_refl _)
/-- The same row, as data. -/
theorem LCells.le_ro {get : Nat → List AV} (l : List α) (hg : ∀ i (hi : i < l.length), get i = C l[i]) : Le (.ro s l.length (fun i => ((flatC C l).drop (0 + i * s)).take s)) (.ro s l.length get) :=
  Le_ro fun i hi => by rw [h.flatC_get l i hi, hg i hi]
end

/-! ### Loops that let the last row grow -/
section
variable {P : Program} {G : Env}

theorem growK {k n : Nat} {c : Code} {N : Nat} (sl : Nat → AV → List (Nat × AV)) (out : AV → List (Nat × AV)) (R : AV → List Row) (row : Nat → Row) (len : Nat → Nat) {ex : AExit} (hex : ex ≠ .normal) (M : List (Option Nat))
    (step : ∀ i, i < N → CodeC P G n c (sl i (.own k 0 (len i) none)) (R (.own k 0 (len i) none) ++ [row i]) .normal (sl (i + 1) (.own (k + 1) 0 (len (i + 1)) none)) (R (.own (k + 1) 0 (len (i + 1)) none) ++ [.gone, row (i + 1)]))
    (last : CodeC P G n c (sl N (.own k 0 (len N) none)) (R (.own k 0 (len N) none) ++ [row N]) ex (out (.own k 0 (len N) none)) (R (.own k 0 (len N) none) ++ [row N]))
    (hM : ∀ i, i < N → packK k M (hL (R (.own (k + 1) 0 (len (i + 1)) none) ++ [.gone, row (i + 1)])) = true)
    (hr : ∀ i, i < N → renS (idxM M 0) (sl (i + 1) (.own (k + 1) 0 (len (i + 1)) none)) = sl (i + 1) (.own k 0 (len (i + 1)) none))
    (hR : ∀ i, i < N → outM (idxM M 0) (hL (R (.own (k + 1) 0 (len (i + 1)) none) ++ [.gone, row (i + 1)])) M = R (.own k 0 (len (i + 1)) none) ++ [row (i + 1)]) :
    ∀ (m i : Nat), N - i = m → i ≤ N → LoopK P G k n c (sl i (.own k 0 (len i) none)) (R (.own k 0 (len i) none) ++ [row i]) ex (out (.own k 0 (len N) none)) (R (.own k 0 (len N) none) ++ [row N])
  | 0, i, hk, hi => by
    obtain rfl : i = N := by omega
    exact LoopK.exit last hex
  | m + 1, i, hk, hi => by
    have hlt : i < N := by omega
    refine LoopK.step M (step i hlt) (hM i hlt) ?_
    rw [hr i hlt, hR i hlt]
    exact growK sl out R row len hex M step last hM hr hR m (i + 1) (by omega) (by omega)

/-- The row is there from the start. -/
theorem growOwn {k n : Nat} {c : Code} {N : Nat} (sl : Nat → AV → List (Nat × AV)) (out : AV → List (Nat × AV)) (R : AV → List Row) (row : Nat → Row) (len : Nat → Nat) {ex : AExit} (hex : ex ≠ .normal) (M : List (Option Nat))
    (step : ∀ i, i < N → CodeC P G n c (sl i (.own k 0 (len i) none)) (R (.own k 0 (len i) none) ++ [row i]) .normal (sl (i + 1) (.own (k + 1) 0 (len (i + 1)) none)) (R (.own (k + 1) 0 (len (i + 1)) none) ++ [.gone, row (i + 1)]))
    (last : CodeC P G n c (sl N (.own k 0 (len N) none)) (R (.own k 0 (len N) none) ++ [row N]) ex (out (.own k 0 (len N) none)) (R (.own k 0 (len N) none) ++ [row N]))
    (hM : ∀ i, i < N → packK k M (hL (R (.own (k + 1) 0 (len (i + 1)) none) ++ [.gone, row (i + 1)])) = true)
    (hr : ∀ i, i < N → renS (idxM M 0) (sl (i + 1) (.own (k + 1) 0 (len (i + 1)) none)) = sl (i + 1) (.own k 0 (len (i + 1)) none))
    (hR : ∀ i, i < N → outM (idxM M 0) (hL (R (.own (k + 1) 0 (len (i + 1)) none) ++ [.gone, row (i + 1)])) M = R (.own k 0 (len (i + 1)) none) ++ [row (i + 1)])
    (M2 : List (Option Nat)) (h2 : packK k M2 (hL (R (.own k 0 (len N) none) ++ [row N])) = true) (hN : noneM k (R (.own k 0 (len 0) none) ++ [row 0]).length M2 = true) :
    CodeC P G n (.loop c) (sl 0 (.own k 0 (len 0) none)) (R (.own k 0 (len 0) none) ++ [row 0]) ex (renS (idxM M2 0) (out (.own k 0 (len N) none))) (outM (idxM M2 0) (hL (R (.own k 0 (len N) none) ++ [row N])) M2) :=
  LoopK.code M2 (growK sl out R row len hex M step last hM hr hR N 0 rfl (Nat.zero_le _)) h2 hN

/-- The first round lays the row. -/
theorem growNil {k n : Nat} {c : Code} {N : Nat} (sl : Nat → AV → List (Nat × AV)) (out : AV → List (Nat × AV)) (R : AV → List Row) (row : Nat → Row) (len : Nat → Nat) {ex : AExit} (hex : ex ≠ .normal) (M : List (Option Nat)) (z : AV)
    (h0 : 0 < N)
    (first : CodeC P G n c (sl 0 z) (R z) .normal (sl 1 (.own k 0 (len 1) none)) (R (.own k 0 (len 1) none) ++ [row 1]))
    (step : ∀ i, 0 < i → i < N → CodeC P G n c (sl i (.own k 0 (len i) none)) (R (.own k 0 (len i) none) ++ [row i]) .normal (sl (i + 1) (.own (k + 1) 0 (len (i + 1)) none)) (R (.own (k + 1) 0 (len (i + 1)) none) ++ [.gone, row (i + 1)]))
    (last : CodeC P G n c (sl N (.own k 0 (len N) none)) (R (.own k 0 (len N) none) ++ [row N]) ex (out (.own k 0 (len N) none)) (R (.own k 0 (len N) none) ++ [row N]))
    (hM : ∀ i, i < N → packK k M (hL (R (.own (k + 1) 0 (len (i + 1)) none) ++ [.gone, row (i + 1)])) = true)
    (hr : ∀ i, i < N → renS (idxM M 0) (sl (i + 1) (.own (k + 1) 0 (len (i + 1)) none)) = sl (i + 1) (.own k 0 (len (i + 1)) none))
    (hR : ∀ i, i < N → outM (idxM M 0) (hL (R (.own (k + 1) 0 (len (i + 1)) none) ++ [.gone, row (i + 1)])) M = R (.own k 0 (len (i + 1)) none) ++ [row (i + 1)])
    (M2 : List (Option Nat)) (h2 : packK k M2 (hL (R (.own k 0 (len N) none) ++ [row N])) = true) (hN : noneM k (R z).length M2 = true)
    (h1 : packK k M2 (hL (R (.own k 0 (len 1) none) ++ [row 1])) = true)
    (hr1 : renS (idxM M2 0) (sl 1 (.own k 0 (len 1) none)) = sl 1 (.own k 0 (len 1) none))
    (hR1 : ∀ i, outM (idxM M2 0) (hL (R (.own k 0 (len i) none) ++ [row i])) M2 = R (.own k 0 (len i) none) ++ [row i])
    (ho : renS (idxM M2 0) (out (.own k 0 (len N) none)) = out (.own k 0 (len N) none)) :
    CodeC P G n (.loop c) (sl 0 z) (R z) ex (out (.own k 0 (len N) none)) (R (.own k 0 (len N) none) ++ [row N]) := by
  have e : LoopK P G k n c (sl 1 (.own k 0 (len 1) none)) (R (.own k 0 (len 1) none) ++ [row 1]) ex (out (.own k 0 (len N) none)) (R (.own k 0 (len N) none) ++ [row N]) := by
    have := growK (P := P) (G := G) (n := n) (c := c) (N := N - 1) (fun i => sl (i + 1)) out R (fun i => row (i + 1)) (fun i => len (i + 1)) hex M
      (fun i hi => step (i + 1) (by omega) (by omega)) (by rw [show N - 1 + 1 = N by omega]; exact last)
      (fun i hi => hM (i + 1) (by omega)) (fun i hi => hr (i + 1) (by omega)) (fun i hi => hR (i + 1) (by omega)) (N - 1) 0 rfl (Nat.zero_le _)
    rw [show N - 1 + 1 = N by omega] at this
    exact this
  have e2 := LoopK.step M2 first h1 (by rw [hr1, hR1]; exact e)
  have e3 := LoopK.code M2 e2 h2 hN
  rw [ho, hR1] at e3
  exact e3
end
end Go.Ax
