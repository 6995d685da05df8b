/-
  An abstract machine for Go functions (part 5): single operations, shown against the model's own.
-/
import Derived.Test.YtdfefemnlimeeaaDoorAx4
import Derived.Laws.AppendOwn
import Derived.Laws.CopyRow
import Derived.ChangeKeysEq
set_option linter.unusedVariables false
set_option linter.unusedSimpArgs false
namespace Go.Ax

/-- What an operation comes to. -/
def RunsTo (P : Program) (s : Sem Next) (w : World) (post : Value → World → Prop) : Prop :=
  (∃ v w', s.run P w = .ok (.value v) w' ∧ post v w') ∨ (∃ w', s.run P w = .ok .skip w' ∧ post undef w') ∨
  (∃ g args, s.run P w = .ok (.enter g args) w ∧ Calls P g args w (fun e w' => ∃ v, e = .returned v ∧ post v w'))

theorem RunsTo.wp {P : Program} {o : Oper} {a : Act} {w : World} {post : Value → World → Prop} {K : Act → World → Prop} {Q : Exit → Act → World → Prop}
    (h : RunsTo P (execOp a.eval o) w post) (hK : ∀ v w', post v w' → K (a.put o.dst v) w') : o.wp P a w K Q := by
  unfold Oper.wp
  rcases h with ⟨v, w', hr, hp⟩ | ⟨w', hr, hp⟩ | ⟨g, args, hr, hc⟩
  · rw [hr]; exact hK _ _ hp
  · rw [hr]; exact hK _ _ hp
  · rw [hr]
    exact hc.mono fun e w' ⟨v, he, hp⟩ => by subst he; exact hK _ _ hp

theorem RunsTo.mono {P : Program} {s : Sem Next} {w : World} {post post' : Value → World → Prop} (h : RunsTo P s w post) (hp : ∀ v w', post v w' → post' v w') : RunsTo P s w post' := by
  rcases h with ⟨v, w', hr, hq⟩ | ⟨w', hr, hq⟩ | ⟨g, args, hr, hc⟩
  · exact .inl ⟨v, w', hr, hp _ _ hq⟩
  · exact .inr (.inl ⟨w', hr, hp _ _ hq⟩)
  · exact .inr (.inr ⟨g, args, hr, hc.mono fun e w' ⟨v, he, hq⟩ => ⟨v, he, hp _ _ hq⟩⟩)

def Post (G : Env) (ρ : Lay) (h : Heap) (O : Nat → Prop) (w : World) (v : AV) (us : List (Nat × Row)) (x : Value) (w' : World) : Prop :=
  ∃ ρ' O', VR ρ' (h.upd us) O' w' v x ∧ Sim G ρ' (h.upd us) O' w' ∧ Fr ρ h O w ρ' (h.upd us) O' w'

section
variable {P : Program} {G : Env} {ρ : Lay} {h : Heap} {O : Nat → Prop} {w : World}

theorem post_pure (S : Sim G ρ h O w) {v : AV} {x : Value} (hv : VR ρ h O w v x) : Post G ρ h O w v [] x w :=
  ⟨ρ, O, hv, S, Fr.refl ρ h O w⟩

theorem VR_lit {u v : Value} (hv : VR ρ h O w (.lit u) v) : v = u := by
  cases hv with
  | dr hd => cases hd; rfl

theorem VR.ofLit (u : Value) : VR ρ h O w (.lit u) u := .dr (.lit u)

theorem pureV_run {α : Type} (P : Program) : ∀ (s : Sem α) (a : α), pureV P s = some a → ∀ w, s.run P w = .ok a w := by
  intro s
  induction s with
  | pure b => intro a ha w; simp [pureV] at ha; subst ha; rfl
  | program k ih => intro a ha w; simp only [pureV] at ha; simp only [Sem.run]; exact ih P a ha w
  | mark m k ih => intro a ha w; simp only [pureV] at ha; simp only [Sem.run]; exact ih a ha w
  | _ => intro a ha; simp [pureV] at ha

theorem allLit_spec {f : Operand → AV} : ∀ {l : List Operand}, allLit f l = true → ∀ x ∈ l, ∃ v, f x = .lit v
  | [], _, x, hx => by cases hx
  | y :: l, hl, x, hx => by
    unfold allLit at hl
    split at hl
    · rename_i v hv
      rcases List.mem_cons.1 hx with rfl | hx
      · exact ⟨v, hv⟩
      · exact allLit_spec hl x hx
    · cases hl

theorem evPure_sound {o : Oper} {f : Operand → AV} {g : Operand → Value} {v : AV} {us : List (Nat × Row)} {c : List Prop} (S : Sim G ρ h O w)
    (hop : ∀ x ∈ o.op.operands.toList, VR ρ h O w (f x) (g x)) (he : evPure P o f = some (v, us, c)) : RunsTo P (execOp g o) w (Post G ρ h O w v us) := by
  have hs : ∀ cs b, o.op ≠ .select cs b := fun cs b e => by unfold evPure at he; simp [e] at he
  have he' : (bif allLit f o.op.operands.toList then
      match pureV P (execOp (fun x => (litOf (f x)).getD undef) o) with
      | some (.value v) => some (AV.lit v, ([] : List (Nat × Row)), ([] : List Prop))
      | _ => none
    else none) = some (v, us, c) := by
    unfold evPure at he
    split at he
    · cases he
    · exact he
  cases hl : allLit f o.op.operands.toList with
  | false => simp [hl] at he'
  | true =>
    simp only [hl, cond_true] at he'
    have hcong : execOp g o = execOp (fun x => (litOf (f x)).getD undef) o := by
      refine execOp_congr o hs fun x hx => ?_
      obtain ⟨u, hu⟩ := allLit_spec hl x (by simpa using hx)
      have := hop x (by simpa using hx)
      rw [hu] at this
      rw [VR_lit this]
      simp [hu, litOf]
    split at he'
    · rename_i u hu
      simp only [Option.some.injEq, Prod.mk.injEq] at he'
      obtain ⟨rfl, rfl, rfl⟩ := he'
      refine .inl ⟨u, w, ?_, post_pure S (VR.ofLit u)⟩
      rw [hcong]
      exact pureV_run P _ _ hu w
    · cases he'

/-! ### cells of a value -/
theorem cells?_spec {a : AV} {v : Value} {cs : List AV} (ha : a.cells? = some cs) (hv : VR ρ h O w a v) :
    v.cells.size = cs.length ∧ ∀ (j : Nat) c u, cs[j]? = some c → v.cells[j]? = some u → VR ρ h O w c u := by
  have one : ∀ {a : AV} {v : Value}, VR ρ h O w a v → (∀ vs, v ≠ .agg vs) → v.cells.size = [a].length ∧ ∀ (j : Nat) c u, [a][j]? = some c → v.cells[j]? = some u → VR ρ h O w c u := by
    intro a v hv hn
    have hc : v.cells = #[v] := by cases v <;> first | rfl | exact absurd rfl (hn _)
    rw [hc]
    refine ⟨rfl, fun j c u h1 h2 => ?_⟩
    cases j with
    | zero => simp at h1 h2; subst h1; subst h2; exact hv
    | succ j => simp at h1
  cases hv with
  | dr hd =>
    cases hd with
    | dead => simp [AV.cells?] at ha
    | opt => simp [AV.cells?] at ha
    | lit =>
      cases v with
      | agg vs =>
        simp only [AV.cells?, Option.some.injEq] at ha
        subst ha
        refine ⟨by simp [Value.cells], fun j c u h1 h2 => ?_⟩
        simp only [List.getElem?_map, Value.cells] at h1 h2
        rw [Array.getElem?_toList, h2] at h1
        simp at h1
        subst h1
        exact VR.ofLit u
      | tuple vs => simp [AV.cells?] at ha
      | _ => simp only [AV.cells?, Option.some.injEq] at ha; subst ha; exact one (VR.ofLit _) (fun vs e => by cases e)
    | bts h1 h2 h3 h4 h5 => simp only [AV.cells?, Option.some.injEq] at ha; subst ha; exact one (.dr (.bts h1 h2 h3 h4 h5)) (fun vs e => by cases e)
    | btsnil => simp only [AV.cells?, Option.some.injEq] at ha; subst ha; exact one (.dr .btsnil) (fun vs e => by cases e)
    | ro val h1 h2 h3 h4 h5 h6 h7 => simp only [AV.cells?, Option.some.injEq] at ha; subst ha; exact one (.dr (.ro val h1 h2 h3 h4 h5 h6 h7)) (fun vs e => by cases e)
    | ronil => simp only [AV.cells?, Option.some.injEq] at ha; subst ha; exact one (.dr .ronil) (fun vs e => by cases e)
    | rp val h1 h2 h3 => simp only [AV.cells?, Option.some.injEq] at ha; subst ha; exact one (.dr (.rp val h1 h2 h3)) (fun vs e => by cases e)
    | agg h1 h2 =>
      simp only [AV.cells?, Option.some.injEq] at ha
      subst ha
      exact ⟨h1.symm, fun j c u hc hu => .dr (h2 j c u hc hu)⟩
    | ifc h1 => simp only [AV.cells?, Option.some.injEq] at ha; subst ha; exact one (.dr (.ifc h1)) (fun vs e => by cases e)
    | clo h1 h2 h3 h4 => simp only [AV.cells?, Option.some.injEq] at ha; subst ha; exact one (.dr (.clo h1 h2 h3 h4)) (fun vs e => by cases e)
  | own h1 h2 h3 h4 h5 h6 h7 h8 h9 h10 h11 h12 => simp only [AV.cells?, Option.some.injEq] at ha; subst ha; exact one (.own h1 h2 h3 h4 h5 h6 h7 h8 h9 h10 h11 h12) (fun vs e => by cases e)
  | ownGone h1 h2 => simp only [AV.cells?, Option.some.injEq] at ha; subst ha; exact one (.ownGone h1 h2) (fun vs e => by cases e)
  | ptr h1 h2 h3 => simp only [AV.cells?, Option.some.injEq] at ha; subst ha; exact one (.ptr h1 h2 h3) (fun vs e => by cases e)
  | ptrGone h1 h2 => simp only [AV.cells?, Option.some.injEq] at ha; subst ha; exact one (.ptrGone h1 h2) (fun vs e => by cases e)
  | mp h1 h2 => simp only [AV.cells?, Option.some.injEq] at ha; subst ha; exact one (.mp h1 h2) (fun vs e => by cases e)
  | mpGone h1 h2 => simp only [AV.cells?, Option.some.injEq] at ha; subst ha; exact one (.mpGone h1 h2) (fun vs e => by cases e)
  | agg h1 h2 =>
    simp only [AV.cells?, Option.some.injEq] at ha
    subst ha
    exact ⟨h1.symm, h2⟩
  | tup h1 h2 => simp [AV.cells?] at ha
  | opt => simp [AV.cells?] at ha
  | ifc h1 => simp only [AV.cells?, Option.some.injEq] at ha; subst ha; exact one (.ifc h1) (fun vs e => by cases e)
  | clo h1 h2 h3 h4 => simp only [AV.cells?, Option.some.injEq] at ha; subst ha; exact one (.clo h1 h2 h3 h4) (fun vs e => by cases e)
end
end Go.Ax
