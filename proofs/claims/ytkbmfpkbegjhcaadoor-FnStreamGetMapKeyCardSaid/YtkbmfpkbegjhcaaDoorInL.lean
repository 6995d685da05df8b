/-
  Lists that came in: of whole numbers, of texts.
-/
import Derived.Test.YtkbmfpkbegjhcaaDoorAx33
set_option linter.unusedVariables false
set_option linter.unusedSimpArgs false
namespace Go.Ax
open Go.RowKit
section
variable {H : Type} {enc : TypeId × Value → H} {P : Program} {w : World} {base : Nat} {spare : Nat → Bool} {held : Bool}
theorem in_list {T : Type} (d : T) (V : T → AV) (Q : T → Prop) {t e : TypeId} {fuel : Nat} {cs : List Value} {x : DataW H × List MemPlace} (ht : P.underlying t = some (.slice e)) (hc : P.cellsOf e = 1)
    (hel : ∀ n cs x, n < fuel → DataW.trod enc P w base spare held n e cs = some x → ∃ a : T, DRs (Oin w) w [V a] cs ∧ Q a)
    (h : DataW.trod enc P w base spare held fuel t cs = some x) : ∃ l : List T, DRs (Oin w) w [.ro 1 l.length (fun i => [V (l.getD i d)])] cs ∧ l.length ≤ maxLen ∧ ∀ y ∈ l, Q y := by
  obtain ⟨n, f, h1, h2, h3⟩ := in_slice d (fun z => [V z]) Q ht (fun a => by rw [hc]; rfl) (by omega) hel h
  refine ⟨(List.range n).map f, ?_, by simpa using h2, fun y hy => ?_⟩
  · have hl : cs.length = 1 := by simpa using h1.1.symm
    obtain ⟨v, rfl⟩ := List.length_eq_one_iff.1 hl
    have hd := h1.get
    refine .one ?_
    have hn : ((List.range n).map f).length = n := by simp
    have hg : ∀ i, i < n → ((List.range n).map f).getD i d = f i := fun i hi => by simp [hi]
    rw [hc] at hd
    cases hd with
    | @ro _ _ _ a cap val g1 g2 g3 g4 g5 g6 g7 =>
      rw [hn]
      exact DR.ro val g1 g2 g3 g4 (fun i hi => rfl) (fun i j c hi hj => by
        rw [hg i hi] at hj
        exact g6 i j c hi hj) (fun i j c hi hj => by
        rw [hg i hi] at hj
        exact g7 i j c hi hj)
    | ronil => exact .ronil
  · obtain ⟨i, hi, rfl⟩ := List.mem_map.1 hy
    exact h3 i (by simpa using hi)
theorem in_strings {t e : TypeId} {fuel : Nat} {cs : List Value} {x : DataW H × List MemPlace} (ht : P.underlying t = some (.slice e)) (he : P.underlying e = some .string) (hc : P.cellsOf e = 1)
    (h : DataW.trod enc P w base spare held fuel t cs = some x) : ∃ l : List ByteArray, DRs (Oin w) w [.ro 1 l.length (fun i => [.lit (.string (l.getD i .empty))])] cs ∧ l.length ≤ maxLen ∧ ∀ y ∈ l, y.size ≤ maxLen :=
  in_list .empty (fun z => .lit (.string z)) (fun y => y.size ≤ maxLen) ht hc (fun n cs x hn hx => by
    obtain ⟨z, hz, h0⟩ := in_string he hx
    exact ⟨z, hz, h0⟩) h
end
end Go.Ax
