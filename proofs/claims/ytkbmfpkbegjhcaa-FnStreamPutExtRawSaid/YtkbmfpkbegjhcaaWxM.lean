/-
  Values of MessagePack that came in.
-/
import Derived.Test.YtkbmfpkbegjhcaaWxK
import Derived.KernelRfl
set_option linter.unusedVariables false
set_option linter.unusedSimpArgs false
set_option maxRecDepth 100000
namespace Go.Ax
open Go.Proofs

theorem list5 {α : Type} {cs : List α} (h : cs.length = 5) : ∃ a b c d e, cs = [a, b, c, d, e] := by
  match cs, h with
  | [a, b, c, d, e], _ => exact ⟨a, b, c, d, e, rfl⟩
section
variable {H : Type} {enc : TypeId × Value → H} {w : World} {base : Nat} {spare : Nat → Bool} {held : Bool}

theorem cell1 : Try.prog.cellsOf 3 = 1 ∧ Try.prog.cellsOf 22 = 1 ∧ Try.prog.cellsOf 9 = 1 ∧ Try.prog.cellsOf 26 = 1 ∧ Try.prog.cellsOf 28 = 5 :=
  ⟨by kernel_rfl, by kernel_rfl, by kernel_rfl, by kernel_rfl, by kernel_rfl⟩

theorem max_le : maxLen ≤ 9223372036854775807 := by decide

theorem in_pack : ∀ (fuel : Nat) (cs : List Value) (x : DataW H × List MemPlace), DataW.trod enc Try.prog w base spare held fuel 28 cs = some x → ∃ p : PackT, DRs (Oin w) w (pcells p) cs ∧ p.wf := by
  intro fuel
  induction fuel using Nat.strongRecOn with
  | ind fuel ih =>
    intro cs x h
    obtain ⟨c3, c22, c9, c23, c25⟩ := cell1
    obtain ⟨n, rfl, hl, hf⟩ := in_field Try.underlying28 h
    rw [c25] at hl
    obtain ⟨a0, a1, a2, a3, a4, rfl⟩ := list5 hl
    obtain ⟨y0, h0⟩ : ∃ y, DataW.trod enc Try.prog w base spare held n 3 (([a0, a1, a2, a3, a4].drop 0).take (Try.prog.cellsOf 3)) = some y := hf 0 _ rfl
    rw [c3] at h0
    obtain ⟨y1, h1⟩ : ∃ y, DataW.trod enc Try.prog w base spare held n 22 (([a0, a1, a2, a3, a4].drop 1).take (Try.prog.cellsOf 22)) = some y := hf 1 _ rfl
    rw [c22] at h1
    obtain ⟨y2, h2⟩ : ∃ y, DataW.trod enc Try.prog w base spare held n 9 (([a0, a1, a2, a3, a4].drop 2).take (Try.prog.cellsOf 9)) = some y := hf 2 _ rfl
    rw [c9] at h2
    obtain ⟨y3, h3⟩ : ∃ y, DataW.trod enc Try.prog w base spare held n 3 (([a0, a1, a2, a3, a4].drop 3).take (Try.prog.cellsOf 3)) = some y := hf 3 _ rfl
    rw [c3] at h3
    obtain ⟨y4, h4⟩ : ∃ y, DataW.trod enc Try.prog w base spare held n 26 (([a0, a1, a2, a3, a4].drop 4).take (Try.prog.cellsOf 26)) = some y := hf 4 _ rfl
    rw [c23] at h4
    obtain ⟨k, d0, -, -⟩ := in_int Try.underlying3 h0
    obtain ⟨u, d1, u0, u1⟩ := in_int Try.underlying22 h1
    obtain ⟨t, d2, ht⟩ := in_string Try.underlying9 h2
    obtain ⟨e, d3, -, -⟩ := in_int Try.underlying3 h3
    obtain ⟨m, f, d4, hm, hw⟩ := in_slice PackT.nul pcells PackT.wf Try.underlying26 (fun a => by rw [c25]; rfl) (by rw [c25]; decide) (fun n' cs' x' hn hx => ih n' (by omega) cs' x' hx) h4
    rw [c25] at d4
    refine ⟨.mk k u t e m f, ?_, ?_⟩
    · exact d0.append (d1.append (d2.append (d3.append d4)))
    · have m0 : IntKind.min .u64 = 0 := by decide
      have m1 : IntKind.max .u64 = 18446744073709551615 := by decide
      have := max_le
      rw [m0] at u0; rw [m1] at u1
      exact ⟨u0, by omega, by omega, by omega, hw⟩

theorem in_packs {fuel : Nat} {cs : List Value} {x : DataW H × List MemPlace} (h : DataW.trod enc Try.prog w base spare held fuel 26 cs = some x) :
    ∃ (n : Nat) (f : Nat → PackT), DRs (Oin w) w [.ro 5 n (fun i => pcells (f i))] cs ∧ ∀ i, i < n → (f i).wf := by
  obtain ⟨c3, c22, c9, c23, c25⟩ := cell1
  obtain ⟨m, f, d4, hm, hw⟩ := in_slice PackT.nul pcells PackT.wf Try.underlying26 (fun a => by rw [c25]; rfl) (by rw [c25]; decide) (fun n' cs' x' hn hx => in_pack n' cs' x' hx) h
  rw [c25] at d4
  exact ⟨m, f, d4, hw⟩
end
end Go.Ax
