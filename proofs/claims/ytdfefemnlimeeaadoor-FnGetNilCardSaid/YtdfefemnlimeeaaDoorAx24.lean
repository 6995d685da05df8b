/-
  An abstract machine for Go functions (part 24): small helps.
-/
import Derived.Test.YtdfefemnlimeeaaDoorAx23
set_option linter.unusedVariables false
set_option linter.unusedSimpArgs false
namespace Go.Ax

def loopsIn : Code → List Code
  | .seq a b => loopsIn a ++ loopsIn b
  | .cond _ a b => loopsIn a ++ loopsIn b
  | .block _ c => loopsIn c
  | .scope c => loopsIn c
  | .loop c => c :: loopsIn c
  | _ => []

/-- The body of a function's loop number k. -/
def loopAt (fn : Func) (k : Nat) : Code := (nth (loopsIn (fn.body.getD .skip)) k).getD .skip

def noG : Env := fun _ => none

theorem Le_nil : Le (.lit (.slice none 0 0)) (.bts []) := fun ρ h O w v hv => by rw [VR_lit hv]; exact .dr .btsnil
@[simp] theorem Le_nil_iff : Le (.lit (.slice none 0 0)) (.bts []) ↔ True := ⟨fun _ => trivial, fun _ => Le_nil⟩

theorem AllP_nil : AllP [] := trivial
theorem AllP_cons {p : Prop} {l : List Prop} (h : p) (h' : AllP l) : AllP (p :: l) := ⟨h, h'⟩

/-- A contract again, its words changed. -/
theorem ACalls.cast {P : Program} {G : Env} {f : FuncId} {args args' : List AV} {H H' H0 H1 : List Row} {ret ret' : AV} (h : ACalls P G f args H ret H') (ha : args = args') (hH : H = H0) (hr : ret = ret') (hH' : H' = H1) :
    ACalls P G f args' H0 ret' H1 := by subst ha; subst hH; subst hr; subst hH'; exact h

theorem leAll_cons {a b : AV} {as bs : List AV} (h : Le a b) (h' : leAll as bs) : leAll (a :: as) (b :: bs) := ⟨h, h'⟩

/-- Rows that a call does not look at. -/
theorem ACalls.frame {P : Program} {G : Env} {f : FuncId} {args : List AV} {ret : AV} (H : List Row) (h : ACalls P G f args [] ret []) (ha : leAll (args.map (AV.ren (idxIn [] 0))) args) (hr : ret.ren (backTo [] H.length) = ret) :
    ACalls P G f args H ret H := by
  refine ⟨h.1, fun O ρ w vals S hl hv => ?_⟩
  have K : SubOk (hL H) [] [] := ⟨fun i j x hi _ => (by simp at hi), fun id hm => (by cases hm), rfl, fun k id hk => (by simp at hk)⟩
  refine (h.2 O (layOf ρ []) w vals (K.sim S) hl fun j a v ha' hv' => ?_).mono fun e w' ⟨v, ρ2, O2, he, hvr, S2, F2⟩ => ?_
  · have h1 : (args.map (AV.ren (idxIn [] 0)))[j]? = some (a.ren (idxIn [] 0)) := by rw [List.getElem?_map, ha']; rfl
    exact (leAll_spec ha).2 j _ a h1 ha' _ _ _ _ _ (VR_ren K.ren (hv j a v ha' hv'))
  · obtain ⟨q1, q2, q3⟩ := sub_back (fr := H.length) K S (Nat.zero_le _) (fun i h1 h2 => by simp at h2; omega) S2 F2
    exact ⟨v, _, O2, he, by have := VR_ren q1 hvr; rw [hr] at this; exact this, q2, q3⟩

theorem bytes_empty : ByteArray.empty = ByteArray.mk #[] := rfl
end Go.Ax
