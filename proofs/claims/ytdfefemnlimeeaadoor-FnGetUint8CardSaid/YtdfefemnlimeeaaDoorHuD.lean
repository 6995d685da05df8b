/-
  laws.FnGetUint8: the law.
-/
import Derived.Test.YtdfefemnlimeeaaDoorHuC
import Derived.Test.YtdfefemnlimeeaaDoorHiQ
set_option linter.unusedVariables false
set_option linter.unusedSimpArgs false
set_option maxRecDepth 100000
namespace Go.Ax
open Go.Proofs

theorem Le_e3 (x : AV) (r : AV) (t : Nat) (v : AV) : Le (.tup [x, r, .ifc t v]) (.tup [x, r, errAV t]) :=
  Le_tup ⟨Le.refl _, Le.refl _, Le_ifc _ _, trivial⟩

section
variable (u0 : Nat)
abbrev RdB (d : List UInt8) (v : Int) (r : List UInt8) : Prop := ACalls Tryd.prog (gS u0) 18 [.bts d] [] (.tup [.lit (.int .u8 v), .bts r, .lit (.bool true)]) []
abbrev NoB (d : List UInt8) : Prop := ACalls Tryd.prog (gS u0) 18 [.bts d] [] (.tup [.lit (.int .u8 0), .lit (.slice none 0 0), .lit (.bool false)]) []

theorem noB (d : List UInt8) (h : NoU u0 d) : NoB u0 d := by
  obtain ⟨t, h⟩ := h
  exact uuge u0 d [] t ⟨uure u0 d [] t ⟨h, trivial⟩, trivial⟩

theorem rdB (d r : List UInt8) (v : Int) (h1 : 0 ≤ v) (h2 : v ≤ 255) (hr : r.length ≤ 140737488355328) (h : RdU u0 d v r) : RdB u0 d v r := by
  have c : decide (v > (255 : Int)) = false := by simp; omega
  have := uur u0 d r v ⟨c, h, trivial⟩
  rw [wrapU8, Int.emod_eq_of_lt h1 (by omega)] at this
  exact uug u0 d r v ⟨(copyC r hr).anyG _, this, trivial⟩

theorem noBout (d r : List UInt8) (v : Int) (h1 : 255 < v) (h : RdU u0 d v r) : NoB u0 d := by
  have c : decide (v > (255 : Int)) = true := by simp; omega
  have := uuro u0 d r v ⟨c, h, trivial⟩
  exact uuge u0 d [] _ ⟨this.le (leAll_refl _) (Le_n _ _ _ _) rfl, trivial⟩

/-- Whether a value is a whole number of eight bits without a sign. -/
def fitsU8 (p : PackT) : Prop := (p.kind = 2 ∨ p.kind = 3) ∧ ¬ (p.kind = 2 ∧ IntKind.i64.wrap p.num < 0) ∧ p.num ≤ 255
instance (p : PackT) : Decidable (fitsU8 p) := inferInstanceAs (Decidable (_ ∧ _))

theorem intUC (p : PackT) : ACalls Tryd.prog (gS u0) 29 [pAV p] [] (.lit (.bool (bif p.kind == (2 : Int) then true else p.kind == (3 : Int)))) [] := (iitN p trivial).anyG _

theorem fitsUC (p : PackT) (h0 : 0 ≤ p.num) (h1 : p.num < 18446744073709551616) : ACalls Tryd.prog (gS u0) 19 [pAV p, .lit (.int .i64 8)] [] (.lit (.bool (decide (fitsU8 p)))) [] := by
  by_cases h3 : p.kind = 2 ∧ IntKind.i64.wrap p.num < 0
  · have e : decide (fitsU8 p) = false := by
      apply decide_eq_false
      exact fun h => h.2.1 h3
    rw [e]
    exact uufn u0 p ⟨by simp [h3.1, h3.2], trivial⟩
  · have c : (bif p.kind == (2 : Int) then decide (IntKind.i64.wrap p.num < (0 : Int)) else false) = false := by
      cases hk : (p.kind == (2 : Int)) with
      | false => rfl
      | true =>
        have hk' : p.kind = 2 := by simpa using hk
        have : ¬ IntKind.i64.wrap p.num < 0 := fun h => h3 ⟨hk', h⟩
        simpa using this
    refine (uuf u0 p _ ⟨intUC u0 p, c, trivial⟩).cast rfl rfl ?_ rfl
    congr 2
    have e1 : ((IntKind.u64.wrap (p.num * (72057594037927936 : Int))).fdiv (72057594037927936 : Int) == p.num) = decide (p.num ≤ 255) := by
      generalize p.num = v at h0 h1
      rw [wrapU64, Int.fdiv_eq_ediv_of_nonneg _ (by decide)]
      rw [Bool.eq_iff_iff]
      simp only [beq_iff_eq, decide_eq_true_eq]
      constructor
      · intro h; omega
      · intro h; omega
    rw [e1]
    by_cases hk : p.kind = 2 ∨ p.kind = 3
    · have e2 : (bif p.kind == (2 : Int) then true else p.kind == (3 : Int)) = true := by
        rcases hk with hk | hk <;> simp [hk]
      rw [e2]
      have : fitsU8 p ↔ p.num ≤ 255 := ⟨fun h => h.2.2, fun h => ⟨hk, h3, h⟩⟩
      simp only [this, cond_true]
    · have e2 : (bif p.kind == (2 : Int) then true else p.kind == (3 : Int)) = false := by
        have a : p.kind ≠ 2 := fun e => hk (.inl e)
        have b : p.kind ≠ 3 := fun e => hk (.inr e)
        simp [a, b]
      rw [e2]
      have : decide (fitsU8 p) = false := decide_eq_false fun h => hk h.1
      rw [this]; rfl

theorem sampleB : ACalls Tryd.prog (gS u0) 18 [.own 0 0 1 (some 1)] [.bytes 5 [5]] (.tup [.lit (.int .u8 5), .bts [], .lit (.bool true)]) [.gone] :=
  ACalls.freezeArg 0 rfl rfl ((rdB u0 [5] [] 5 (by decide) (by decide) (by simp) (rdFixU u0 5 (by decide) [])).frame [.gone] (by simp [leAll, AV.ren]) rfl)

/-- The whole numbers of a value that is put. -/
theorem encInt {k u : Int} {t : ByteArray} {e : Int} {n : Nat} {f : Nat → PackT} {out : List UInt8} (h : Enc (.mk k u t e n f) out) : (k = 2 → IntOut u true out) ∧ (k = 3 → IntOut u false out) := by
  constructor <;> intro hk <;> subst hk <;> simp only [Enc] at h
  · rcases h with ⟨h, _⟩ | ⟨h, _⟩ | ⟨_, h⟩ | ⟨h, _⟩ | ⟨h, _⟩ | ⟨h, _⟩ | ⟨h, _⟩ | ⟨h, _⟩ | ⟨h, _⟩ | ⟨h, _⟩ | ⟨h, _⟩ <;> first | exact absurd h (by decide) | exact h
  · rcases h with ⟨h, _⟩ | ⟨h, _⟩ | ⟨h, _⟩ | ⟨_, h⟩ | ⟨h, _⟩ | ⟨h, _⟩ | ⟨h, _⟩ | ⟨h, _⟩ | ⟨h, _⟩ | ⟨h, _⟩ | ⟨h, _⟩ <;> first | exact absurd h (by decide) | exact h

theorem fnGetUint8C (p : PackT) (hw : p.wf) (fs : Int) (sb : Bool) (bh : List UInt8) (ct : Int) : ACalls Tryd.prog (gS u0) 8 [gAV p fs sb bh ct] [] (.lit (.bool true)) [] := by
  by_cases hb : bh.length ≤ 2147483647
  · have z := zzYes (gS u0) p fs sb bh ct hb
    have s := sampleB u0
    have rl : RowLe (Row.bytes 5 [UInt8.ofNat 5]) (Row.bytes 5 [(5 : UInt8)]) ∧ True := ⟨RowLe.refl _, trivial⟩
    rcases dataC p hw fs sb bh ct with hd | ⟨out, d, r, cu, ho, hf, _, hl, hbl, hcase, hd⟩
    · exact uul1 u0 p fs sb bh ct ⟨hd.anyG _, s, rl, z, trivial⟩
    · have hd := hd.anyG (gS u0)
      have lead := encLead p out 6 hw hf ho
      have hnum : 0 ≤ p.num ∧ p.num < 18446744073709551616 := by
        cases p with
        | nul => exact ⟨by decide, by decide⟩
        | mk k u t e n f => exact ⟨hw.1, hw.2.1⟩
      have F := fitsUC u0 p hnum.1 hnum.2
      have key : (∀ r : List UInt8, r.length ≤ 1000 → if fitsU8 p then RdB u0 (out ++ r) p.num r else NoB u0 (out ++ r)) ∧ (∀ m, m < out.length → NoB u0 (out.take m)) := by
        by_cases hk : p.kind = 2 ∨ p.kind = 3
        · obtain ⟨k, u, t, e, n, f, rfl⟩ : ∃ k u t e n f, p = .mk k u t e n f := by
            cases p with
            | nul => simp [PackT.kind] at hk
            | mk k u t e n f => exact ⟨k, u, t, e, n, f, rfl⟩
          have hu : 0 ≤ u ∧ u < 18446744073709551616 := ⟨hw.1, hw.2.1⟩
          have E := encInt ho
          simp only [PackT.kind] at hk
          have I : (∀ r, ((k = 3 ∨ u ≤ 9223372036854775807) → RdU u0 (out ++ r) u r) ∧ ((k = 2 ∧ 9223372036854775807 < u) → NoU u0 (out ++ r))) ∧ ∀ m, m < out.length → NoU u0 (out.take m) := by
            rcases hk with hk | hk
            · have R := rdUint u0 u hu.1 hu.2 true out (E.1 hk)
              exact ⟨fun r => ⟨fun h => (R.1 r).1 (.inr (by omega)), fun h => (R.1 r).2 ⟨rfl, h.2⟩⟩, R.2⟩
            · have R := rdUint u0 u hu.1 hu.2 false out (E.2 hk)
              exact ⟨fun r => ⟨fun _ => (R.1 r).1 (.inl rfl), fun h => by omega⟩, R.2⟩
          refine ⟨fun r hr => ?_, fun m hm => noB u0 _ (I.2 m hm)⟩
          by_cases hov : k = 2 ∧ 9223372036854775807 < u
          · have hn : ¬ fitsU8 (.mk k u t e n f) := fun h => h.2.1 ⟨hov.1, by show IntKind.i64.wrap u < 0; rw [wrapI64]; omega⟩
            rw [if_neg hn]
            exact noB u0 _ ((I.1 r).2 hov)
          · have R := (I.1 r).1 (by omega)
            by_cases hfi : fitsU8 (.mk k u t e n f)
            · rw [if_pos hfi]
              exact rdB u0 _ r _ hu.1 hfi.2.2 (by omega) R
            · rw [if_neg hfi]
              refine noBout u0 _ r _ ?_ R
              by_cases hx : u ≤ 255
              · exfalso
                refine hfi ⟨hk, fun h3 => ?_, hx⟩
                have h4 : IntKind.i64.wrap u < 0 := h3.2
                rw [wrapI64] at h4
                omega
              · omega
        · have hn : ¬ fitsU8 p := fun h => hk h.1
          have no : ∀ d, (d = [] ∨ ∃ b r, d = b :: r ∧ Lead p.kind b.toNat) → NoB u0 d := by
            rintro d (rfl | ⟨b, r, rfl, h2⟩)
            · exact noB u0 _ (noU0 u0)
            · unfold Lead at h2
              exact noB u0 _ (noUX u0 b r (by omega) (by omega) (by omega))
          obtain ⟨b, r', rfl, h2⟩ := lead
          refine ⟨fun r _ => ?_, fun m hm => ?_⟩
          · rw [if_neg hn]
            exact no _ (.inr ⟨b, _, rfl, h2⟩)
          · cases m with
            | zero => exact no _ (.inl rfl)
            | succ m => exact no _ (.inr ⟨b, _, rfl, h2⟩)
      rcases hcase with ⟨rfl, rfl, m, hm, rfl⟩ | ⟨rfl, rfl, rfl⟩
      · exact uul2 u0 p fs sb bh ct _ _ ⟨key.2 m hm, hd, s, rl, z, trivial⟩
      · have K := key.1 r (by omega)
        by_cases hfi : fitsU8 p
        · rw [if_pos hfi] at K
          rw [decide_eq_true hfi] at F
          have e : IntKind.u64.wrap p.num = p.num := w64u _ hnum.1 hnum.2
          exact (uul4 u0 p fs sb r ct _ r _ ⟨sameLeft _ r, by simp [e], by simp [e], by simp [e], F, K, hd, s, rl, z, trivial⟩).cast rfl rfl (by simp [e]) rfl
        · rw [if_neg hfi] at K
          rw [decide_eq_false hfi] at F
          exact uul3 u0 p fs sb r ct _ r ⟨F, K, hd, s, rl, z, trivial⟩
  · exact uul0 u0 p fs sb bh ct ⟨zzNo _ p fs sb bh ct hb, trivial⟩
end
end Go.Ax
