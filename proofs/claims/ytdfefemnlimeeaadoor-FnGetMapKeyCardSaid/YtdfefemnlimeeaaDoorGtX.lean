/-
  The listed error variable, with its type: by the type's name.
-/
import Derived.Test.YtdfefemnlimeeaaDoorGtY
import Derived.KernelRfl
import Derived.LaidLaws
set_option linter.unusedVariables false
set_option maxRecDepth 100000
namespace Go.Ax
open Go.Proofs Go.RowKit

def bareName (P : Program) (name : String) (u : Nat) : Bool :=
  match P.info? u with
  | some i => match i.desc with
    | .named n _ => n == name
    | .pointer _ => false
    | .bool | .int _ | .float _ | .string => i.str == name
    | _ => false
  | none => false

theorem bareName_of {P : Program} {d u : Nat} {name : String} (h : P.typeName? (d + 1) u = some name) : bareName P name u = true ∨ ∃ s, name = "*" ++ s := by
  unfold Program.typeName? at h
  unfold bareName
  cases hi : P.info? u with
  | none => rw [hi] at h; cases h
  | some i =>
    rw [hi] at h
    simp only at h ⊢
    cases hd : i.desc <;> rw [hd] at h <;> simp only at h ⊢ <;> (try (cases h; done)) <;> (try (split at h <;> simp_all; done))
    obtain ⟨s, -, rfl⟩ := Option.map_eq_some_iff.1 h
    exact .inr ⟨s, rfl⟩

theorem lit_iface_name {w : World} {fuel : Nat} {t : TypeId} {u : TypeId} {v : Value} {name : String} {d : DataW Unit} {p : List MemPlace} (ht : ∃ m, Tryd.prog.underlying t = some (.interface m))
    (h : DataW.trod (fun _ => ()) Tryd.prog w 0 (fun _ => true) false fuel t [.iface u v] = some (.iface name d, p)) : Tryd.prog.typeName? 3 u = some name := by
  obtain ⟨m, hm⟩ := ht
  cases fuel with
  | zero => simp [DataW.trod] at h
  | succ n =>
    unfold DataW.trod at h
    rw [hm] at h
    simp only at h
    cases hn : Tryd.prog.typeName? 3 u with
    | none => rw [hn] at h; cases h
    | some name' =>
      rw [hn] at h
      obtain ⟨x, -, e⟩ := Option.map_eq_some_iff.1 h
      cases e
      rfl

theorem shortId {u : Nat} (h : Tryd.prog.typeName? 3 u = some "given.example/pub-saddlebag/pub/msgp/msgp.errShort") : u = 142 := by
  rcases bareName_of h with hb | ⟨s, hs⟩
  · have hall : ((List.range 146).all fun u => !bareName Tryd.prog "given.example/pub-saddlebag/pub/msgp/msgp.errShort" u || u == 142) = true := by kernel_rfl
    by_cases hu : u < 146
    · have := List.all_eq_true.1 hall u (List.mem_range.2 hu)
      rw [hb] at this
      simpa using this
    · exfalso
      unfold bareName at hb
      have hsz : Tryd.prog.types.size = 146 := by kernel_rfl
      cases hi : Tryd.prog.info? u with
      | none => rw [hi] at hb; cases hb
      | some i =>
        have hy := Tables.info?_beyond (by rw [hsz]; exact hu) hi
        rw [hi] at hb
        simp only at hb
        cases hd : i.desc <;> rw [hd] at hb hy <;> simp [TypeDesc.tableOnly] at hb hy
  · exfalso
    have := congrArg String.toList hs
    simp at this

/-- What the listed variables hold, with the type of the one that is read. -/
theorem glob_short {w : World} (h : laidMet Tryd.prog YtdfefemnlimeeaaDoor.Rows.fnGetNilRow.laid w) : GlobAt (gS 142) (fun b => b < w.heap.size) w := by
  obtain ⟨ps, ⟨g, t, cs, fuel, p, q, h1, h2, h3, h4, -⟩, -⟩ := h
  obtain rfl : g = 0 := Option.some.inj (h1.symm.trans (by kernel_rfl))
  obtain rfl : t = 47 := Option.some.inj (h2.symm.trans (by kernel_rfl))
  obtain ⟨u, v, hcs⟩ := iface_laid ⟨_, Tryd.underlying47⟩ h4
  rw [hcs] at h4
  obtain rfl := shortId (lit_iface_name ⟨_, Tryd.underlying47⟩ h4)
  intro g cs' hg
  match g, hg with
  | 0, hg =>
    obtain rfl : _ = cs' := Option.some.inj hg
    have hc : w.cell? ⟨0, 0, none⟩ = some (.iface 142 v) ∧ 0 < w.heap.size := by
      unfold World.var? at h3
      rw [h1] at h3
      simp only [Option.bind_some] at h3
      cases hh : w.heap[0]? with
      | none => rw [hh] at h3; cases h3
      | some o =>
        rw [hh] at h3
        have hlt := (Array.getElem?_eq_some_iff.1 hh).1
        cases o with
        | cells c ty fz =>
          simp at h3
          refine ⟨?_, hlt⟩
          subst h3
          have e0 : w.cell? ⟨0, 0, none⟩ = c[0]? := by simp [World.cell?, hh]
          rw [e0, ← Array.getElem?_toList, hcs]
          rfl
        | _ => simp at h3
    refine ⟨hc.2, fun j c hj => ?_⟩
    cases j with
    | zero => simp at hj; subst hj; exact ⟨_, hc.1, .ifc (.dead _)⟩
    | succ j => simp at hj
end Go.Ax
