/-
  laws.FnGetNil: what the function computes.
-/
import Derived.Test.YtdfefemnlimeeaaDoorGtP
import Derived.Test.YtdfefemnlimeeaaDoorGtZ
set_option linter.unusedVariables false
set_option linter.unusedSimpArgs false
set_option maxRecDepth 100000
namespace Go.Ax
open Go.Proofs

theorem zzNo (G : Env) (p : PackT) (fs : Int) (sb : Bool) (bh : List UInt8) (ct : Int) (h : ¬ bh.length ≤ 2147483647) : ACalls Tryd.prog G 9 [gAV p fs sb bh ct] [] (.lit (.bool false)) [] :=
  (zz0 p fs sb bh ct ⟨by simp; omega, trivial⟩).anyG G

/-- What is read is nothing, or begins with the value's first byte. -/
theorem firstOf {p : PackT} {out d r bh : List UInt8} {cu : Bool} {k : Int} (h : ∃ b r, out = b :: r ∧ Lead k b.toNat)
    (hd : (cu = true ∧ r = [] ∧ ∃ m, m < out.length ∧ d = out.take m) ∨ (cu = false ∧ d = out ++ bh ∧ r = bh)) : d = [] ∨ ∃ b r, d = b :: r ∧ Lead k b.toNat := by
  obtain ⟨b, r', rfl, hl⟩ := h
  rcases hd with ⟨_, _, m, _, rfl⟩ | ⟨_, rfl, _⟩
  · cases m with
    | zero => exact .inl rfl
    | succ m => exact .inr ⟨b, _, rfl, hl⟩
  · exact .inr ⟨b, _, rfl, hl⟩

theorem fnGetNilC (u0 : Nat) (p : PackT) (hw : p.wf) (fs : Int) (sb : Bool) (bh : List UInt8) (ct : Int) : ACalls Tryd.prog (gS u0) 3 [gAV p fs sb bh ct] [] (.lit (.bool true)) [] := by
  by_cases hb : bh.length ≤ 2147483647
  · have z := zzYes (gS u0) p fs sb bh ct hb
    have s := getNilSample u0
    have rl : RowLe (Row.bytes 5 [UInt8.ofNat 192]) (Row.bytes 5 [(192 : UInt8)]) ∧ True := ⟨RowLe.refl _, trivial⟩
    rcases dataC p hw fs sb bh ct with hd | ⟨out, d, r, cu, ho, hf, _, hl, hbl, hcase, hd⟩
    · exact ln1 u0 p fs sb bh ct ⟨hd.anyG _, s, rl, z, trivial⟩
    · have hd := hd.anyG (gS u0)
      have lead := encLead p out 6 hw hf ho
      by_cases hk : p.kind = 0
      · have hout : out = [192] := by
          cases p with
          | nul => exact ho
          | mk k u t e n f =>
            simp only [PackT.kind] at hk
            subst hk
            simp only [Enc] at ho
            rcases ho with ⟨_, h⟩ | ⟨h, _⟩ | ⟨h, _⟩ | ⟨h, _⟩ | ⟨h, _⟩ | ⟨h, _⟩ | ⟨h, _⟩ | ⟨h, _⟩ | ⟨h, _⟩ | ⟨h, _⟩ | ⟨h, _⟩ <;> first | exact h | exact absurd h (by decide)
        subst hout
        rcases hcase with ⟨rfl, rfl, m, hm, rfl⟩ | ⟨rfl, rfl, rfl⟩
        · have : m = 0 := by simpa using hm
          subst this
          exact ln2 u0 p fs sb bh ct _ _ true ⟨rfl, getNilNo u0 _ (.inl rfl), hd, s, rl, z, trivial⟩
        · exact (ln3 u0 p fs sb r ct _ _ false ⟨sameLeft _ r, by simp [hk], getNilYes u0 r (by omega), hd, s, rl, z, trivial⟩).cast rfl rfl rfl rfl
      · have : d = [] ∨ ∃ b r, d = b :: r ∧ b.toNat ≠ 192 := by
          rcases firstOf (p := p) lead hcase with h | ⟨b, r', h1, h2⟩
          · exact .inl h
          · refine .inr ⟨b, r', h1, ?_⟩
            unfold Lead at h2
            omega
        exact ln2 u0 p fs sb bh ct d r cu ⟨by cases cu <;> simp [hk], getNilNo u0 d this, hd, s, rl, z, trivial⟩
  · exact ln0 u0 p fs sb bh ct ⟨zzNo _ p fs sb bh ct hb, trivial⟩
end Go.Ax
