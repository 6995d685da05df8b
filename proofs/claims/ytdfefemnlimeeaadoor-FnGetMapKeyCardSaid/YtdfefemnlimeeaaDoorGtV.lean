/-
  laws.FnGetText: what the function computes.
-/
import Derived.Test.YtdfefemnlimeeaaDoorGtQ
import Derived.Test.YtdfefemnlimeeaaDoorGtU
set_option linter.unusedVariables false
set_option linter.unusedSimpArgs false
set_option maxRecDepth 100000
namespace Go.Ax
open Go.Proofs

section
variable (u0 : Nat)

theorem getTextNo (d : List UInt8) (h : ∃ t, ACalls Tryd.prog (gS u0) 39 [.bts d] [] (.tup [.bts [], .bts [], errAV t]) []) : ACalls Tryd.prog (gS u0) 13 [.bts d] [] (.tup [.lit (.string ByteArray.empty), .lit (.slice none 0 0), .lit (.bool false)]) [] := by
  obtain ⟨t, ht⟩ := h
  exact gte u0 d t ⟨rbe u0 d t ⟨ht, trivial⟩, trivial⟩

theorem getTextYes (d x r : List UInt8) (hr : r.length ≤ 140737488355328) (h : ACalls Tryd.prog (gS u0) 39 [.bts d] [] (.tup [.bts x, .bts r, .lit .nilIface]) []) :
    ACalls Tryd.prog (gS u0) 13 [.bts d] [] (.tup [.lit (.string (ByteArray.mk x.toArray)), .bts r, .lit (.bool true)]) [] :=
  gt u0 d r _ ⟨(copyC r hr).anyG _, rb u0 d x r ⟨h, trivial⟩, trivial⟩

theorem head97 : HeadOut 1 160 32 (f3 217 218 219) [(161 : UInt8)] := .inl ⟨by decide, by decide, by decide⟩

theorem getTextSample : ACalls Tryd.prog (gS u0) 13 [.own 0 0 2 (some 2)] [.bytes 5 [161, 97]] (.tup [.lit (.string (ByteArray.mk #[(97 : UInt8)])), .bts [], .lit (.bool true)]) [.gone] :=
  ACalls.freezeArg 0 rfl rfl ((getTextYes u0 [161, 97] [97] [] (by simp) ((strForm u0 [97] [161] (by simp) head97).1 [])).frame [.gone] (by simp [leAll, AV.ren]) rfl)

theorem strNoLead (d : List UInt8) (h : d = [] ∨ ∃ b r, d = b :: r ∧ (b.toNat < 160 ∨ 192 ≤ b.toNat) ∧ b.toNat ≠ 217 ∧ b.toNat ≠ 218 ∧ b.toNat ≠ 219) :
    ∃ t, ACalls Tryd.prog (gS u0) 39 [.bts d] [] (.tup [.bts [], .bts [], errAV t]) [] := by
  rcases h with rfl | ⟨b, r, rfl, h1, h2, h3, h4⟩
  · exact ⟨u0, strNone u0⟩
  · exact strBad u0 b r h1 h2 h3 h4

theorem sizeData (t : ByteArray) : t.data.toList.length = t.size := by cases t; rfl

/-- The texts of a value that is put. -/
theorem encText {k u : Int} {t : ByteArray} {e : Int} {n : Nat} {f : Nat → PackT} {out : List UInt8} {l : Int} (hk : k = 6) (hf : (PackT.mk k u t e n f).fits l = true) (h : Enc (.mk k u t e n f) out) :
    t.size ≤ 131072 ∧ ∃ hd, HeadOut t.data.toList.length 160 32 (f3 217 218 219) hd ∧ out = hd ++ t.data.toList := by
  subst hk
  simp only [PackT.fits, Bool.and_eq_true, Bool.not_eq_true'] at hf
  have ff := fitsFacts hf.1.1 hf.1.2
  simp only [Enc] at h
  rcases h with ⟨h, _⟩ | ⟨h, _⟩ | ⟨h, _⟩ | ⟨h, _⟩ | ⟨h, _⟩ | ⟨h, _⟩ | ⟨_, hd, h1, h2⟩ | ⟨h, _⟩ | ⟨h, _⟩ | ⟨h, _⟩ | ⟨h, _⟩ <;> first | exact absurd h (by decide) | skip
  exact ⟨by omega, hd, by rw [sizeData]; exact h1, h2⟩

theorem fnGetTextC (p : PackT) (hw : p.wf) (fs : Int) (sb : Bool) (bh : List UInt8) (ct : Int) : ACalls Tryd.prog (gS u0) 4 [gAV p fs sb bh ct] [] (.lit (.bool true)) [] := by
  by_cases hb : bh.length ≤ 2147483647
  · have z := zzYes (gS u0) p fs sb bh ct hb
    have s := getTextSample u0
    have rl : RowLe (Row.bytes 5 [UInt8.ofNat 161, UInt8.ofNat 97]) (Row.bytes 5 [(161 : UInt8), (97 : UInt8)]) ∧ True := ⟨RowLe.refl _, trivial⟩
    rcases dataC p hw fs sb bh ct with hd | ⟨out, d, r, cu, ho, hf, _, hl, hbl, hcase, hd⟩
    · exact lt1 u0 p fs sb bh ct ⟨hd.anyG _, s, rl, z, trivial⟩
    · have hd := hd.anyG (gS u0)
      have lead := encLead p out 6 hw hf ho
      by_cases hk : p.kind = 6
      · obtain ⟨k, u, t, e, n, f, rfl⟩ : ∃ k u t e n f, p = .mk k u t e n f := by
          cases p with
          | nul => simp [PackT.kind] at hk
          | mk k u t e n f => exact ⟨k, u, t, e, n, f, rfl⟩
        obtain ⟨ht, hd', h1, rfl⟩ := encText hk hf ho
        have S := strForm u0 t.data.toList hd' (by rw [sizeData]; exact ht) h1
        rcases hcase with ⟨rfl, rfl, m, hm, rfl⟩ | ⟨rfl, rfl, rfl⟩
        · exact lt2 u0 _ fs sb bh ct _ _ true ⟨rfl, getTextNo u0 _ ⟨u0, S.2 m hm⟩, hd, s, rl, z, trivial⟩
        · have Y := getTextYes u0 _ _ r (by omega) (S.1 r)
          exact (lt3 u0 (.mk k u t e n f) fs sb r ct _ _ false ⟨sameLeft _ r, by simp, by simp, by simp, by simp [hk], Y, hd, s, rl, z, trivial⟩).cast rfl rfl (by simp) rfl
      · have : d = [] ∨ ∃ b r, d = b :: r ∧ (b.toNat < 160 ∨ 192 ≤ b.toNat) ∧ b.toNat ≠ 217 ∧ b.toNat ≠ 218 ∧ b.toNat ≠ 219 := by
          rcases firstOf (p := p) lead hcase with h | ⟨b, r', h1, h2⟩
          · exact .inl h
          · refine .inr ⟨b, r', h1, ?_⟩
            unfold Lead at h2
            omega
        exact lt2 u0 p fs sb bh ct d r cu ⟨by cases cu <;> simp [hk], getTextNo u0 d (strNoLead u0 d this), hd, s, rl, z, trivial⟩
  · exact lt0 u0 p fs sb bh ct ⟨zzNo _ p fs sb bh ct hb, trivial⟩
end
end Go.Ax
