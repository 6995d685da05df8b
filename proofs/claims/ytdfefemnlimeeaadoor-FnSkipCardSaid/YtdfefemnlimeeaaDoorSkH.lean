/-
  The listed error variables, as the listed datum lays it.
-/
import Derived.Test.YtdfefemnlimeeaaDoorGtA
import Derived.Test.YtdfefemnlimeeaaDoorRows
import Derived.ChangeArms
set_option linter.unusedVariables false
namespace Go.Ax
open Go.Proofs Go.RowKit

theorem iface_laid {w : World} {fuel : Nat} {t : TypeId} {cs : List Value} {name : String} {d : DataW Unit} {p : List MemPlace} (ht : ∃ m, Tryd.prog.underlying t = some (.interface m))
    (h : DataW.trod (fun _ => ()) Tryd.prog w 0 (fun _ => true) false fuel t cs = some (.iface name d, p)) : ∃ u v, cs = [.iface u v] := by
  obtain ⟨m, hm⟩ := ht
  cases fuel with
  | zero => simp [DataW.trod] at h
  | succ n =>
    unfold DataW.trod at h
    rw [hm] at h
    split at h <;> simp_all

theorem glob_three {w : World} (h : laidMet Tryd.prog YtdfefemnlimeeaaDoor.Rows.fnSkipRow.laid w) : ∃ u0, GlobAt (gS u0) (fun b => b < w.heap.size) w := by
  obtain ⟨ps, ⟨g, t, cs, fuel, p, q, h1, h2, h3, h4, -⟩, -⟩ := h
  obtain rfl : g = 0 := Option.some.inj (h1.symm.trans (by kernel_rfl))
  obtain rfl : t = 47 := Option.some.inj (h2.symm.trans (by kernel_rfl))
  obtain ⟨u, v, hcs⟩ := iface_laid ⟨_, Tryd.underlying47⟩ h4
  refine ⟨u, fun g cs' hg => ?_⟩
  match g, hg with
  | 0, hg =>
    obtain rfl : _ = cs' := Option.some.inj hg
    have hc : w.cell? ⟨0, 0, none⟩ = some (.iface u v) ∧ 0 < w.heap.size := by
      unfold World.var? at h3
      rw [h1] at h3
      simp only [Option.bind_some] at h3
      cases hh : w.heap[0]? with
      | none => rw [hh] at h3; cases h3
      | some o =>
        rw [hh] at h3
        have hlt := (Array.getElem?_eq_some_iff.1 hh).1
        cases o with
        | cells c ty fz =>
          simp at h3
          refine ⟨?_, hlt⟩
          subst h3
          have e0 : w.cell? ⟨0, 0, none⟩ = c[0]? := by simp [World.cell?, hh]
          rw [e0, ← Array.getElem?_toList, hcs]
          rfl
        | _ => simp at h3
    refine ⟨hc.2, fun j c hj => ?_⟩
    cases j with
    | zero => simp at hj; subst hj; exact ⟨_, hc.1, .ifc (.dead _)⟩
    | succ j => simp at hj
end Go.Ax
