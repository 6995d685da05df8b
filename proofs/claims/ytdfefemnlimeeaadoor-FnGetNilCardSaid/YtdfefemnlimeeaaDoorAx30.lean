/-
  An abstract machine for Go functions (part 30): package-level variables that read as known; contracts that come from elsewhere.
-/
import Derived.Test.YtdfefemnlimeeaaDoorAx29
set_option linter.unusedVariables false
set_option linter.unusedSimpArgs false
namespace Go.Ax
open Go.RowKit

section
variable {P : Program} {G : Env}

/-- A contract that looks at no package-level variable holds where some are known. -/
theorem ACalls.anyG {f : FuncId} {args : List AV} {H H' : List Row} {ret : AV} (G : Env) (h : ACalls P noG f args H ret H') : ACalls P G f args H ret H' :=
  ⟨h.1, fun O ρ w vals S hl hv => (h.2 O ρ w vals ⟨S.rows, S.inj, S.notO, S.lt, fun g cs hg => by cases hg⟩ hl hv).mono fun e w' ⟨v, ρ', O', he, hr, S', F'⟩ =>
    ⟨v, ρ', O', he, hr, ⟨S'.rows, S'.inj, S'.notO, S'.lt, fun g cs hg => by
      obtain ⟨h1, h2⟩ := S.glob g cs hg
      refine ⟨F'.old g h1, fun j c hc => ?_⟩
      obtain ⟨v, hv, hd⟩ := h2 j c hc
      exact ⟨v, by rw [cell?_heap (w := w) (S.oldKept F' g h1)]; exact hv, DR_mono F'.old (S.oldKept F') hd⟩⟩, F'⟩⟩

/-- What is known of package-level variables, in a world. -/
def GlobAt (G : Env) (O : Nat → Prop) (w : World) : Prop := ∀ g cs, G g = some cs → O g ∧ ∀ (j : Nat) c, cs[j]? = some c → ∃ v, w.cell? ⟨g, j, none⟩ = some v ∧ DR O w c v

/-- A contract from elsewhere: literals in, a literal out; nothing that was there is written. -/
theorem ACalls_of_Calls {f : FuncId} {fn : Func} {vals : List Value} {r : Value} (hf : P.funcs[f]? = some fn) (hn : (fn.name == "runtime.NumGoroutine") = false) (hb : fn.body.isNone = false)
    (h : ∀ (O : Nat → Prop) (w : World), GlobAt G O w → Calls P f vals.toArray w fun e w' => e = .returned r ∧ Below w.heap.size w w') : ACalls P G f (vals.map .lit) [] (.lit r) [] := by
  refine ⟨⟨fn, hf, hn, hb⟩, fun O ρ w vs S hl hv => ?_⟩
  have he : vs = vals := by
    apply List.ext_getElem
    · simpa using hl
    · intro i h1 h2
      have := hv i (.lit vals[i]) vs[i] (by simp [h2]) (by simp [h1])
      exact VR_lit this
  subst he
  refine (h O w S.glob).mono fun e w' ⟨he, B⟩ => ?_
  have F : Fr ρ (hL []) O w ρ (hL []) O w' :=
    { os := B.os, tape := B.tape, output := B.output, size := B.size
      keep := fun b hb _ => B.block b hb
      dom := fun id r hr => by simp [hL, nth] at hr
      own := fun id r hr => by simp [hL, nth] at hr
      old := fun _ h => h
      oldnew := fun b hb => .inl hb }
  exact ⟨_, ρ, O, he, .dr (.lit _), S.step F (fun id r hr => by simp [hL, nth] at hr) (fun i j ri rj hi => by simp [hL, nth] at hi) (fun id r hr => by simp [hL, nth] at hr) (fun b hb => Nat.lt_of_lt_of_le (S.lt b hb) F.size), F⟩

/-- A LAW's WALK from her contract, where package-level variables are known. -/
theorem walk_of_ACallsG {f : FuncId} {args : List AV} {vals : Array Value} {w : World} (h : ACalls P G f args [] (.lit (.bool true)) []) (hl : vals.size = args.length)
    (hv : ∀ (j : Nat) a v, args[j]? = some a → vals[j]? = some v → DR (fun b => b < w.heap.size) w a v) (hG : GlobAt G (fun b => b < w.heap.size) w) :
    Calls P f vals w fun e w' => e = .returned (.bool true) ∧ Below w.heap.size w w' := by
  have := h.2 (fun b => b < w.heap.size) (fun _ => (0, 0)) w vals.toList ⟨fun id r hr => by simp [hL, nth] at hr, fun i j ri rj hi => by simp [hL, nth] at hi, fun id r hr => by simp [hL, nth] at hr, fun b hb => hb,
    hG⟩ (by simpa using hl) (fun j a v ha hv' => .dr (hv j a v ha (by simpa using hv')))
  refine Calls.mono this fun e w' ⟨v, ρ', O', he, hvr, S, F⟩ => ?_
  subst he
  refine ⟨by rw [VR_lit hvr], ⟨F.os, F.tape, F.output, F.size, fun b hb => F.keep b hb fun id r hr => by simp [hL, nth] at hr⟩⟩
end
end Go.Ax
