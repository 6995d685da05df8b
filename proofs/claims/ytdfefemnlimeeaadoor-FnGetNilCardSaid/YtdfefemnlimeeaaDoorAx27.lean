/-
  An abstract machine for Go functions (part 27): slices of whole numbers that came in.
-/
import Derived.Test.YtdfefemnlimeeaaDoorAx26
set_option linter.unusedVariables false
set_option linter.unusedSimpArgs false
namespace Go.Ax
open Go.RowKit

theorem DR_ro {O : Nat → Prop} {w : World} {sz n : Nat} {get get' : Nat → List AV} {v : Value} (h : ∀ i, i < n → get i = get' i) (hd : DR O w (.ro sz n get) v) : DR O w (.ro sz n get') v := by
  cases hd with
  | ro val h1 h2 h3 h4 h5 h6 h7 =>
    exact .ro val h1 h2 h3 h4 (fun i hi => by rw [← h i hi]; exact h5 i hi) (fun i j c hi hc => h6 i j c hi (by rw [h i hi]; exact hc)) (fun i j c hi hc => h7 i j c hi (by rw [h i hi]; exact hc))
  | ronil => exact .ronil

theorem Le_ro {sz n : Nat} {get get' : Nat → List AV} (h : ∀ i, i < n → get i = get' i) : Le (.ro sz n get) (.ro sz n get') := fun ρ hp O w v hv => by
  cases hv with
  | dr hd => exact .dr (DR_ro h hd)

/-- Whole numbers that came in, by value. -/
theorem ints_in {k : IntKind} {w : World} {a : Option Addr} {len cap : Nat} {zs : List Int} (h : (a = none ∧ len = 0 ∧ cap = 0 ∧ zs = []) ∨
    ∃ x, a = some x ∧ len ≤ cap ∧ cap ≤ maxLen ∧ zs.length = cap ∧ (∀ i, i < zs.length → w.cell? (x.add i) = some (.int k (zs.getD i 0))) ∧ ∀ n ∈ zs, (Lit.int k n).wf = true) :
    ∃ l : List Int, l.length = len ∧ len ≤ maxLen ∧ (∀ x ∈ l, (Lit.int k x).wf = true) ∧ DR (fun b => b < w.heap.size) w (.ro 1 l.length (fun i => [.lit (.int k (l.getD i 0))])) (.slice a len cap) := by
  rcases h with ⟨rfl, rfl, rfl, rfl⟩ | ⟨x, rfl, hl, hm, hz, hc, hwf⟩
  · exact ⟨[], rfl, Nat.zero_le _, by simp, .ronil⟩
  · have hlen : (zs.take len).length = len := by simp; omega
    refine ⟨zs.take len, hlen, by omega, fun y hy => hwf y (List.mem_of_mem_take hy), ?_⟩
    have hcell : ∀ i, i < len → w.cell? (x.add i) = some (.int k (zs.getD i 0)) := fun i hi => hc i (by omega)
    have hg : ∀ i, i < len → (zs.take len).getD i 0 = zs.getD i 0 := fun i hi => by simp [List.getD_eq_getElem?_getD, List.getElem?_take, hi]
    rw [hlen]
    refine .ro (fun i j => .int k (zs.getD i 0)) (fun hp => ?_) (fun hp => ?_) hl (Nat.le_trans hm (by decide)) (fun i hi => rfl) (fun i j c hi hj => ?_) (fun i j c hi hj => ?_)
    · have := hcell 0 hp
      rw [show x.add 0 = x by simp [Addr.add]] at this
      exact World.cell?_spot this
    · have := hcell 0 hp
      rw [show x.add 0 = x by simp [Addr.add]] at this
      simp only [World.cell?] at this
      apply Classical.byContradiction
      intro hn
      have : w.heap[x.block]? = none := Array.getElem?_eq_none (by omega)
      simp_all
    · cases j with
      | zero => rw [Nat.mul_one, Nat.add_zero]; exact hcell i hi
      | succ j => simp at hj
    · cases j with
      | zero => simp at hj; subst hj; rw [← List.getD_eq_getElem?_getD, hg i hi]; exact .lit _
      | succ j => simp at hj

/-- The same of numbers that are not below 0. -/
theorem nats_in {k : IntKind} {w : World} {a : Option Addr} {len cap : Nat} {zs : List Int} (hk : k.min = 0) (h : (a = none ∧ len = 0 ∧ cap = 0 ∧ zs = []) ∨
    ∃ x, a = some x ∧ len ≤ cap ∧ cap ≤ maxLen ∧ zs.length = cap ∧ (∀ i, i < zs.length → w.cell? (x.add i) = some (.int k (zs.getD i 0))) ∧ ∀ n ∈ zs, (Lit.int k n).wf = true) :
    ∃ l : List Nat, l.length = len ∧ len ≤ maxLen ∧ (∀ x ∈ l, (x : Int) ≤ k.max) ∧ DR (fun b => b < w.heap.size) w (.ro 1 l.length (fun i => [.lit (.int k ((l.getD i 0 : Nat) : Int))])) (.slice a len cap) := by
  obtain ⟨l, h1, h2, h3, h4⟩ := ints_in h
  have hw : ∀ x ∈ l, 0 ≤ x ∧ x ≤ k.max := fun x hx => by
    have := h3 x hx
    simp [Lit.wf] at this
    omega
  refine ⟨l.map Int.toNat, by simpa using h1, h2, fun x hx => ?_, ?_⟩
  · obtain ⟨y, hy, rfl⟩ := List.mem_map.1 hx
    have := hw y hy
    omega
  · have hlen : (l.map Int.toNat).length = l.length := by simp
    rw [hlen]
    refine DR_ro (fun i hi => ?_) h4
    have : l[i] ∈ l := List.getElem_mem _
    have := hw _ this
    simp [hi]
    omega
end Go.Ax
