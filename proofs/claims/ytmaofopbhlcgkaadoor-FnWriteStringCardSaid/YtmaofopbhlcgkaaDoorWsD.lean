/-
  utf8.ValidString by the shelf's contract, as a contract of the abstract machine; laws.FnWriteString's walk; the two tables of unicode/utf8 read off the listed data.
-/
import Derived.Test.YtmaofopbhlcgkaaDoorWsC
import Derived.Test.YtmaofopbhlcgkaaDoorRows
import Derived.Ground.NamesProg
import Derived.Shelf.Unicode.ValidAny
import Derived.Lib.LaidU8T
import Derived.PinnedBridge
set_option linter.unusedVariables false
set_option linter.unusedSimpArgs false
namespace Go.Proofs
open Go.Shelf
def Tryd.laysValid_ren : Go.Shelf.Ren := ⟨fun | 196 => 11 | 259 => 24 | n => n, fun | 9 => 9 | 4 => 4 | 3 => 3 | 5 => 5 | 12 => 12 | 119 => 63 | 0 => 0 | 46 => 67 | 139 => 66 | 138 => 65 | 53 => 26 | n => n, fun | 3 => 0 | 4 => 1 | n => n⟩
theorem Tryd.laysValid : Go.Proofs.Lays.n196 Tryd.prog Tryd.laysValid_ren := {
  mixed := by kernel_rfl
  f196 := Tryd.func11.trans (congrArg some (by kernel_rfl))
  f259 := Tryd.func24.trans (congrArg some (by kernel_rfl))
  t0 := Tryd.underlying0
  a0 := Tryd.isAgg0
  z0 := Tryd.sizeOf0
  v0 := Tryd.zeroValue0
  t3 := Tryd.underlying3
  a3 := Tryd.isAgg3
  z3 := Tryd.sizeOf3
  v3 := Tryd.zeroValue3
  t4 := Tryd.underlying4
  a4 := Tryd.isAgg4
  z4 := Tryd.sizeOf4
  v4 := Tryd.zeroValue4
  t5 := Tryd.underlying5
  a5 := Tryd.isAgg5
  z5 := Tryd.sizeOf5
  v5 := Tryd.zeroValue5
  t9 := Tryd.underlying9
  a9 := Tryd.isAgg9
  z9 := Tryd.sizeOf9
  v9 := Tryd.zeroValue9
  t12 := Tryd.underlying12
  a12 := Tryd.isAgg12
  z12 := Tryd.sizeOf12
  v12 := Tryd.zeroValue12
  t46 := Tryd.underlying67
  a46 := Tryd.isAgg67
  z46 := Tryd.sizeOf67
  v46 := Tryd.zeroValue67
  t53 := Tryd.underlying26
  a53 := Tryd.isAgg26
  z53 := Tryd.sizeOf26
  v53 := Tryd.zeroValue26
  t119 := Tryd.underlying63
  a119 := Tryd.isAgg63
  z119 := Tryd.sizeOf63
  t138 := Tryd.underlying65
  a138 := Tryd.isAgg65
  z138 := Tryd.sizeOf65
  v138 := Tryd.zeroValue65
  t139 := Tryd.underlying66
  a139 := Tryd.isAgg66
  z139 := Tryd.sizeOf66
  v139 := Tryd.zeroValue66
  g3 := by kernel_rfl
  g4 := by kernel_rfl }
end Go.Proofs
namespace Go.Ax
open Go.Proofs Go.Shelf Go.RowKit

theorem pair_even {α : Type} (f g : Nat → α) (n : Nat) : ∀ i, i < n → ((List.range n).flatMap fun i => [f i, g i])[2 * i]? = some (f i) ∧ ((List.range n).flatMap fun i => [f i, g i])[2 * i + 1]? = some (g i) := by
  induction n with
  | zero => intro i hi; omega
  | succ n ih =>
    intro i hi
    have hl : ((List.range n).flatMap fun i => [f i, g i]).length = 2 * n := by
      clear ih hi
      induction n with
      | zero => rfl
      | succ n ih => rw [List.range_succ, List.flatMap_append, List.length_append, ih]; simp; omega
    rw [List.range_succ, List.flatMap_append]
    by_cases h : i < n
    · rw [List.getElem?_append_left (by omega), List.getElem?_append_left (by omega)]
      exact ih i h
    · obtain rfl : i = n := by omega
      rw [List.getElem?_append_right (by omega), List.getElem?_append_right (by omega), hl]
      simp

theorem pair_len {α : Type} (f g : Nat → α) (n : Nat) : ((List.range n).flatMap fun i => [f i, g i]).length = 2 * n := by
  induction n with
  | zero => rfl
  | succ n ih => rw [List.range_succ, List.flatMap_append, List.length_append, ih]; simp; omega

theorem utf8_of_glob {O : Nat → Prop} {w : World} (h : GlobAt gU O w) : Lib.Utf8Tabs 0 1 w := by
  refine ⟨fun c hc => ?_, fun i hi => ?_⟩
  · obtain ⟨-, h2⟩ := h 0 _ rfl
    obtain ⟨v, hv, hd⟩ := h2 c (.lit (.int .u8 (Lib.firstT c))) (by simp [List.getElem?_map, List.getElem?_range hc])
    cases hd
    exact hv
  · obtain ⟨-, h2⟩ := h 1 _ rfl
    obtain ⟨e1, e2⟩ := pair_even (fun i => AV.lit (.int .u8 (Lib.accLo i))) (fun i => AV.lit (.int .u8 (Lib.accHi i))) 16 i hi
    obtain ⟨v, hv, hd⟩ := h2 (2 * i) _ e1
    obtain ⟨v', hv', hd'⟩ := h2 (2 * i + 1) _ e2
    cases hd
    cases hd'
    exact ⟨hv, hv'⟩

theorem cell_lt {w : World} {g c : Nat} {v : Value} (h : w.cell? ⟨g, c, none⟩ = some v) : g < w.heap.size := by
  unfold World.cell? at h
  by_cases hg : g < w.heap.size
  · exact hg
  · simp [Array.getElem?_eq_none (Nat.le_of_not_lt hg)] at h

theorem glob_of_utf8 {w : World} (h : Lib.Utf8Tabs 0 1 w) : GlobAt gU (fun b => b < w.heap.size) w := by
  intro g cs hg
  match g with
  | 0 =>
    obtain rfl : _ = cs := Option.some.inj hg
    refine ⟨cell_lt (h.1 0 (by omega)), fun j c hc => ?_⟩
    obtain ⟨hj, hc⟩ := List.getElem?_eq_some_iff.1 hc
    simp at hj hc
    subst hc
    exact ⟨_, h.1 j hj, .lit _⟩
  | 1 =>
    obtain rfl : _ = cs := Option.some.inj hg
    refine ⟨cell_lt (h.2 0 (by omega)).1, fun j c hc => ?_⟩
    have hj := (List.getElem?_eq_some_iff.1 hc).1
    rw [pair_len] at hj
    obtain ⟨e1, e2⟩ := pair_even (fun i => AV.lit (.int .u8 (Lib.accLo i))) (fun i => AV.lit (.int .u8 (Lib.accHi i))) 16 (j / 2) (by omega)
    obtain ⟨k1, k2⟩ := h.2 (j / 2) (by omega)
    rcases Nat.mod_two_eq_zero_or_one j with hm | hm
    · have : j = 2 * (j / 2) := by omega
      rw [← this] at e1 k1
      obtain rfl := Option.some.inj (e1.symm.trans hc)
      exact ⟨_, k1, .lit _⟩
    · have : j = 2 * (j / 2) + 1 := by omega
      rw [← this] at e2 k2
      obtain rfl := Option.some.inj (e2.symm.trans hc)
      exact ⟨_, k2, .lit _⟩
  | g + 2 => cases hg

theorem validC (s : ByteArray) (hs : s.size ≤ 131072) : ACalls Tryd.prog gU 11 [.lit (.string s)] [] (.lit (.bool (Lib.validD s.data.toList))) [] :=
  ACalls_of_Calls (vals := [.string s]) Tryd.func11 (by kernel_rfl) (by kernel_rfl) (fun O w h => Any.utf8_ValidString Tryd.laysValid s w (by omega) (utf8_of_glob h))

theorem fnWriteStringC (s : ByteArray) : ACalls Tryd.prog gU 4 [.lit (.string s)] [] (.lit (.bool true)) [] := fnWriteString validC s

theorem tabs_of_laid {w : World} (h : laidMet Tryd.prog YtmaofopbhlcgkaaDoor.Rows.fnWriteStringRow.laid w) : Lib.Utf8Tabs 0 1 w :=
  utf8Tabs_of_readsT (U8Types.of196 Tryd.laysValid) ⟨by kernel_rfl, by kernel_rfl, by kernel_rfl, by kernel_rfl, by kernel_rfl, by kernel_rfl, by kernel_rfl⟩ (Pinned.utf8First_eq ▸ Lib.laidMet.reads h (.tail _ (.head _))) (Lib.laidMet.reads h (.head _))
end Go.Ax
