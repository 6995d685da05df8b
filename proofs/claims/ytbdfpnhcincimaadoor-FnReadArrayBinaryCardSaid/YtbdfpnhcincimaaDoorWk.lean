/-
  Contracts of calls: rows that come out, told less closely.
-/
import Derived.Test.YtbdfpnhcincimaaDoorAx33
set_option linter.unusedVariables false
namespace Go.Ax
mutual
theorem AV.ren_some : ∀ a : AV, a.ren some = a
  | .own id off len cap => rfl
  | .ptr id off => rfl
  | .mp id => rfl
  | .agg cs => by rw [AV.ren, AV.renL_some cs]
  | .tup cs => by rw [AV.ren, AV.renL_some cs]
  | .ifc t v => by rw [AV.ren, AV.ren_some v]
  | .clo fn fs cp => by rw [AV.ren, AV.renL_some fs, AV.renL_some cp]
  | .opt p v => by rw [AV.ren, AV.ren_some v]
  | .dead => rfl
  | .lit v => rfl
  | .bts bs => rfl
  | .ro sz n get => rfl
  | .rp cs off => rfl
theorem AV.renL_some : ∀ l : List AV, AV.renL some l = l
  | [] => rfl
  | a :: l => by rw [AV.renL, AV.ren_some a, AV.renL_some l]
end
theorem renE_some : ∀ l : List (Int × AV), renE some l = l
  | [] => rfl
  | (n, a) :: l => by rw [renE, AV.ren_some a, renE_some l]
theorem Row.ren_some : ∀ r : Row, r.ren some = r
  | .gone => rfl
  | .cells e sz cs => by rw [Row.ren, AV.renL_some cs]
  | .bytes e bs => rfl
  | .map k es => by rw [Row.ren, renE_some es]

def rowsLe2 : List Row → List Row → Prop
  | [], [] => True
  | r :: l, r' :: l' => RowLe r r' ∧ rowsLe2 l l'
  | _, _ => False

theorem rowsLe2_at : ∀ {l l' : List Row}, rowsLe2 l l' → ∀ i : Nat, (∀ r, l[i]? = some r → ∃ r', l'[i]? = some r' ∧ RowLe r r') ∧ (∀ r', l'[i]? = some r' → ∃ r, l[i]? = some r ∧ RowLe r r')
  | [], [], _, i => ⟨fun r h => by simp at h, fun r h => by simp at h⟩
  | r :: l, r' :: l', h, 0 => ⟨fun x hx => by simp at hx; subst hx; exact ⟨r', rfl, h.1⟩, fun x hx => by simp at hx; subst hx; exact ⟨r, rfl, h.1⟩⟩
  | r :: l, r' :: l', h, i + 1 => by simpa using rowsLe2_at h.2 i
  | [], _ :: _, h, _ => h.elim
  | _ :: _, [], h, _ => h.elim

theorem out_le {G : Env} {H' H2 : List Row} (hl : rowsLe2 H' H2) {ρ0 ρ : Lay} {h0 : Heap} {O0 O : Nat → Prop} {w0 w : World} (S : Sim G ρ (hL H') O w) (F : Fr ρ0 h0 O0 w0 ρ (hL H') O w) :
    RenOk some ρ (hL H') ρ (hL H2) ∧ Sim G ρ (hL H2) O w ∧ Fr ρ0 h0 O0 w0 ρ (hL H2) O w := by
  have fw : ∀ i r, hL H' i = some r → ∃ r', hL H2 i = some r' ∧ RowLe r r' := fun i r h => by rw [hL_get] at h ⊢; exact (rowsLe2_at hl i).1 r h
  have bw : ∀ i r', hL H2 i = some r' → ∃ r, hL H' i = some r ∧ RowLe r r' := fun i r h => by rw [hL_get] at h ⊢; exact (rowsLe2_at hl i).2 r h
  have R : RenOk some ρ (hL H') ρ (hL H2) := ⟨fun id k r hk hr => by
    obtain rfl := Option.some.inj hk
    obtain ⟨r', h1, e1, e2, e3, e4, e5, _⟩ := fw id r hr
    exact ⟨r', h1, fun hv => ⟨by rw [e1]; exact hv, rfl, e2.symm, e4.symm, by rw [e5]; exact Nat.le_refl _⟩⟩⟩
  refine ⟨R, ⟨fun id r hr => ?_, fun i j ri rj hi hj hli hlj he => ?_, fun id r hr hv => ?_, S.lt, S.glob⟩, ⟨F.os, F.tape, F.output, F.size, F.keep, fun id r hr => ?_, fun id r hr hv => ?_, F.old, F.oldnew⟩⟩
  · obtain ⟨r0, h1, h2⟩ := bw id r hr
    have := RowR_ren (k := id) R (fun _ => rfl) (S.rows id r0 h1)
    rw [Row.ren_some] at this
    exact RowR_le h2 this
  · obtain ⟨r1, h1, g1⟩ := bw i ri hi
    obtain ⟨r2, h2, g2⟩ := bw j rj hj
    exact S.inj i j r1 r2 h1 h2 (by rw [g1.1]; exact hli) (by rw [g2.1]; exact hlj) he
  · obtain ⟨r1, h1, g1⟩ := bw id r hr
    exact S.notO id r1 h1 (by rw [g1.1]; exact hv)
  · obtain ⟨r', hr', hx⟩ := F.dom id r hr
    obtain ⟨r2, h2, e1, e2, e3, e4, e5, _⟩ := fw id r' hr'
    refine ⟨r2, h2, fun hv => ?_⟩
    obtain ⟨a1, a2, a3, a4, a5, a6⟩ := hx (by rw [e1]; exact hv)
    exact ⟨a1, a2, by rw [← e2]; exact a3, by rw [← e4]; exact a4, by rw [← e5]; exact a5, a6⟩
  · obtain ⟨r1, h1, g1⟩ := bw id r hr
    exact F.own id r1 h1 (by rw [g1.1]; exact hv)

/-- Rows that come out, told less closely. -/
theorem ACalls.leOut {P : Program} {G : Env} {f : FuncId} {args : List AV} {H H' H2 : List Row} {ret : AV} (h : ACalls P G f args H ret H') (hl : rowsLe2 H' H2) : ACalls P G f args H ret H2 :=
  ⟨h.1, fun O ρ w vals S hlen hv => (h.2 O ρ w vals S hlen hv).mono fun e w' ⟨v, ρ', O', he, hr, S', F'⟩ => by
    obtain ⟨q1, q2, q3⟩ := out_le hl S' F'
    have hr2 := VR_ren q1 hr
    rw [AV.ren_some] at hr2
    exact ⟨v, ρ', O', he, hr2, q2, q3⟩⟩

theorem RowLe_cell {e : TypeId} {s : Nat} {a b : AV} (h : Le a b) : RowLe (.cells e s [a]) (.cells e s [b]) :=
  ⟨rfl, rfl, rfl, rfl, rfl, rfl, rfl, fun j x y hx hy => by
    cases j with
    | zero => simp [Row.cs] at hx hy; subst hx; subst hy; exact h
    | succ j => simp [Row.cs] at hx⟩
end Go.Ax
