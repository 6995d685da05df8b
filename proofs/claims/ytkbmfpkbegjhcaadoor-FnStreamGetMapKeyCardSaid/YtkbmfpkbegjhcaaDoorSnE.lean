/-
  Laws of a Reader's numbers over a stream: the parts.
-/
import Derived.Test.YtkbmfpkbegjhcaaDoorSnD
import Derived.Test.YtkbmfpkbegjhcaaDoorSnQ
import Derived.Test.YtkbmfpkbegjhcaaDoorSm7
import Derived.Test.YtkbmfpkbegjhcaaDoorSgG
set_option linter.unusedVariables false
set_option linter.unusedSimpArgs false
set_option maxRecDepth 100000
namespace Go.Ax
open Go.Proofs

theorem copiedC (dat : List UInt8) (h : dat.length ≤ 1000000000000) : A0 44 [.bts dat] [] (.own 0 0 dat.length none) [.bytes 5 dat] :=
  (q44 dat ⟨by omega, trivial⟩).cast rfl rfl (by simp) (by simp)

theorem readingC (z g : Nat) (dat : List UInt8) (hz : 16 ≤ z) (h : dat.length ≤ 1000000000000) : A0 77 [.bts dat, iL z, iL g] [] (.ptr 0 0) (rowsRN z g 0 dat.length dat) := by
  have d : decide ((z : Int) < 16) = false := by simp; omega
  have c1 := copiedC dat h
  have c2 := q165 z g 0 dat.length dat ⟨d, trivial⟩
  have c3 := q129 z g 0 dat.length dat (by
    simp only [AllP, leAll]
    repeat' (first | exact trivial | exact rfl | exact c2 | exact Le.refl _ | exact RowLe.refl _ | omega | with_reducible apply And.intro))
  have c4 := q130 z g 0 dat.length dat ⟨by omega, trivial⟩
  have c5 := q131 z g 0 dat.length dat ⟨by omega, trivial⟩
  refine q77 z g dat ?_
  simp only [AllP, leAll]
  repeat' (first | exact trivial | exact rfl | exact c1 | exact c3 | exact c4 | exact c5 | exact Le.refl _ | exact RowLe.refl _ | omega | with_reducible apply And.intro)

theorem buffersC (a c : Int) : A0 14 [iL a, iL c] [] (bL (decide (18 ≤ a ∧ a ≤ 65536 ∧ 1 ≤ c ∧ c ≤ 65536))) [] :=
  (q14 a c trivial).cast rfl rfl (by
    congr 2
    by_cases h1 : 18 ≤ a <;> by_cases h2 : a ≤ 65536 <;> by_cases h3 : 1 ≤ c <;> by_cases h4 : c ≤ 65536 <;> simp [h1, h2, h3, h4]) rfl

theorem closed_lit {α : Type} (v : α → Value) (l : List α) : AV.closedL (l.map fun x => AV.lit (v x)) = true := by
  induction l with
  | nil => rfl
  | cons x l ih => simp only [List.map_cons, AV.closedL, AV.closed, ih, Bool.and_self]
theorem get_lit {α : Type} (v : α → Value) (l : List α) (d : α) (i : Nat) (h : i < l.length) : ((l.map fun x => AV.lit (v x)).drop (0 + i * 1)).take 1 = [AV.lit (v (l.getD i d))] := by
  rw [Nat.zero_add, Nat.mul_one, List.drop_eq_getElem_cons (by simpa using h)]
  simp [h]

section
variable {α : Type} (k : Int) (num : α → Int) (txt : α → ByteArray)
def cellL (x : α) : List AV := [iL k, uL (num x), sL (txt x), iL 0, nL]
def cellsL (l : List α) : List AV := l.flatMap (cellL k num txt)
theorem cellsL_len (l : List α) : (cellsL k num txt l).length = l.length * 5 := by
  induction l with
  | nil => rfl
  | cons x l ih => simp only [cellsL, List.flatMap_cons, List.length_append] at ih ⊢; rw [ih]; simp [cellL]; omega
theorem cellsL_ren (f : Nat → Option Nat) (l : List α) : AV.renL f (cellsL k num txt l) = cellsL k num txt l := by
  induction l with
  | nil => rfl
  | cons x l ih => simp only [cellsL, List.flatMap_cons, renL_app] at ih ⊢; rw [ih]; rfl
theorem closedL_app : ∀ a b : List AV, AV.closedL (a ++ b) = (AV.closedL a && AV.closedL b)
  | [], b => by simp [AV.closedL]
  | x :: a, b => by simp [AV.closedL, closedL_app a b, Bool.and_assoc]
theorem cellsL_closed (l : List α) : AV.closedL (cellsL k num txt l) = true := by
  induction l with
  | nil => rfl
  | cons x l ih => simp only [cellsL, List.flatMap_cons, closedL_app] at ih ⊢; rw [ih]; rfl
theorem cellsL_get (l : List α) (d : α) (i : Nat) (h : i < l.length) : ((cellsL k num txt l).drop (0 + i * 5)).take 5 = cellL k num txt (l.getD i d) := by
  induction l generalizing i with
  | nil => simp at h
  | cons x l ih =>
    cases i with
    | zero => simp [cellsL, cellL]
    | succ i =>
      have := ih i (by simpa using h)
      simp only [cellsL, List.flatMap_cons, Nat.zero_add] at this ⊢
      rw [show (i + 1) * 5 = (cellL k num txt x).length + i * 5 by simp [cellL]; omega, ← List.drop_drop, List.drop_left]
      exact this
theorem cellsL_snoc (l : List α) (i : Nat) (h : i < l.length) : cellsL k num txt (l.take (i + 1)) = cellsL k num txt (l.take i) ++ cellL k num txt l[i] := by
  simp only [cellsL, List.take_succ_eq_append_getElem h, List.flatMap_append, List.flatMap_cons, List.flatMap_nil, List.append_nil]

/-- laws.allWritten over a list of values that the call owns. -/
theorem writtenL (l : List α) (d : α) (st : Int) (hl : l.length ≤ 1000000) (Q : α → List UInt8 → Prop) (B : Nat) (hB : B ≤ 100000)
    (ih : ∀ x ∈ l, ∀ st : Int, ∃ y st', Q x y ∧ 1 ≤ y.length ∧ y.length ≤ B ∧ A0 27 [.agg (cellL k num txt x), .ptr 0 0] [FR st false] (.own 1 0 y.length none) [FR st' false, .bytes 5 y]) :
    ∃ g : Nat → List UInt8, (∀ j, (h : j < l.length) → Q l[j] (g j) ∧ 1 ≤ (g j).length ∧ (g j).length ≤ B) ∧
      (∀ c, A0 13 [.own 0 0 l.length c, uL st] [.cells 31 5 (cellsL k num txt l)] (.bts (catM g 0 l.length)) [.gone]) ∧ (l = [] → A0 13 [nL, uL st] [] (.bts (catM g 0 l.length)) []) := by
  obtain ⟨g, h1, h2⟩ := writtenC k (fun i => num (l.getD i d)) (fun i => txt (l.getD i d)) l.length hl (fun i y => Q (l.getD i d) y) B hB st (fun i hi st => by
    have e : l.getD i d = l[i] := by simp [hi]
    rw [e]
    have := ih l[i] (List.getElem_mem _) st
    unfold lc
    simp only [e]
    exact this)
  refine ⟨g, fun j hj => ?_, fun c => ?_, fun he => ?_⟩
  · have := h1 j hj
    have e : l.getD j d = l[j] := by simp [hj]
    rw [e] at this
    exact this
  · refine ACalls.freezeArg 0 (r := .cells 31 5 (cellsL k num txt l)) rfl (cellsL_closed k num txt l) ?_
    refine ((h2.le (args' := [.ro 5 l.length (fun i => ((cellsL k num txt l).drop (0 + i * 5)).take 5), uL st]) ?_ (Le.refl _) rfl).frame [.gone] ?_ rfl).cast rfl rfl rfl rfl
    · refine ⟨Le_ro fun i hi => ?_, Le.refl _, trivial⟩
      rw [cellsL_get k num txt l d i hi]
      rfl
    · exact ⟨Le.refl _, Le.refl _, trivial⟩
  · subst he
    exact h2.le ⟨fun ρ hp O w v hv => by rw [VR_lit hv]; exact .dr .ronil, Le.refl _, trivial⟩ (Le.refl _) rfl
end

/-! ### b -/
abbrev slb (st : Int) (z g : Nat) (l : List UInt8) (i : Nat) (w : AV) : List (Nat × AV) := [(0, .bts l), (1, uL st), (2, iL z), (3, iL g), (12, bL true), (53, .bts l), (54, iL l.length), (55, iL i), (13, w)]
abbrev outb (st : Int) (z g : Nat) (l : List UInt8) (w : AV) : List (Nat × AV) := [(0, .bts l), (1, uL st), (2, iL z), (3, iL g), (12, bL true), (13, w)]
def numb (x : UInt8) : Int := ((x.toNat : Nat) : Int)
def txtb (x : UInt8) : ByteArray := .empty

/-! ### u -/
abbrev slu (st : Int) (z g : Nat) (l : List Int) (i : Nat) (w : AV) : List (Nat × AV) := [(0, .ro 1 l.length (fun i => [uL (l.getD i 0)])), (1, uL st), (2, iL z), (3, iL g), (12, bL true), (52, .ro 1 l.length (fun i => [uL (l.getD i 0)])), (53, iL l.length), (54, iL i), (13, w)]
abbrev outu (st : Int) (z g : Nat) (l : List Int) (w : AV) : List (Nat × AV) := [(0, .ro 1 l.length (fun i => [uL (l.getD i 0)])), (1, uL st), (2, iL z), (3, iL g), (12, bL true), (13, w)]
def numu (x : Int) : Int := x
def txtu (x : Int) : ByteArray := .empty

/-! ### i -/
abbrev sli (st : Int) (z g : Nat) (l : List Int) (i : Nat) (w : AV) : List (Nat × AV) := [(0, .ro 1 l.length (fun i => [iL (l.getD i 0)])), (1, uL st), (2, iL z), (3, iL g), (12, bL true), (53, .ro 1 l.length (fun i => [iL (l.getD i 0)])), (54, iL l.length), (55, iL i), (13, w)]
abbrev outi (st : Int) (z g : Nat) (l : List Int) (w : AV) : List (Nat × AV) := [(0, .ro 1 l.length (fun i => [iL (l.getD i 0)])), (1, uL st), (2, iL z), (3, iL g), (12, bL true), (13, w)]
def numi (x : Int) : Int := IntKind.u64.wrap x
def txti (x : Int) : ByteArray := .empty

end Go.Ax
