/-
  laws.FnSkip: what the function computes.
-/
import Derived.Test.YtdfefemnlimeeaaDoorSkF
import Derived.Test.YtdfefemnlimeeaaDoorSkC
set_option linter.unusedVariables false
set_option linter.unusedSimpArgs false
set_option maxRecDepth 100000
namespace Go.Ax
open Go.Proofs

section
variable (u0 : Nat)

theorem skipYes (d x : List UInt8) (hx : x.length ≤ 140737488355328) (h : SK u0 0 d x) : ACalls Tryd.prog (gS u0) 14 [.bts d] [] (.tup [.bts x, .lit (.bool true)]) [] :=
  s14 u0 d x ⟨leftOk _ x hx, s27 u0 d x ⟨h, trivial⟩, trivial⟩

theorem skipNo (d : List UInt8) (h : SE u0 0 d) : ACalls Tryd.prog (gS u0) 14 [.bts d] [] (.tup [.lit (.slice none 0 0), .lit (.bool false)]) [] := by
  obtain ⟨x, t, h⟩ := h
  exact s14e u0 d x t ⟨leftErr _ t x, s27e u0 d x t ⟨h, trivial⟩, trivial⟩

theorem skipSample : ACalls Tryd.prog (gS u0) 14 [.own 0 0 2 (some 2)] [.bytes 5 [5, 6]] (.tup [.bts [6], .lit (.bool true)]) [.gone] :=
  ACalls.freezeArg 0 rfl rfl ((skipYes u0 [5, 6] [6] (by simp) ((skHead u0 0 (by omega) (by omega) [5] 0 (fun _ => []) (okF u0 1 0 (tabLow 5 (by decide)) rfl (by omega) (by omega)) (by omega) (fun j hj => by omega) (by simp [catM])).1 [6] (by simp [catM]))).frame [.gone] (by simp [leAll, AV.ren]) rfl)

theorem fnSkipC (p : PackT) (hw : p.wf) (fs : Int) (sb : Bool) (bh : List UInt8) (ct : Int) : ACalls Tryd.prog (gS u0) 5 [gAV p fs sb bh ct] [] (.lit (.bool true)) [] := by
  by_cases hb : bh.length ≤ 2147483647
  · have z := zzYes (gS u0) p fs sb bh ct hb
    have s := skipSample u0
    have rl : RowLe (Row.bytes 5 [UInt8.ofNat 5, UInt8.ofNat 6]) (Row.bytes 5 [(5 : UInt8), (6 : UInt8)]) ∧ True := ⟨RowLe.refl _, trivial⟩
    rcases dataC p hw fs sb bh ct with hd | ⟨out, d, r, cu, ho, hf, _, hl, hbl, hcase, hd⟩
    · exact sl1 u0 p fs sb bh ct ⟨hd.anyG _, s, rl, z, trivial⟩
    · have hd := hd.anyG (gS u0)
      obtain ⟨Y, N⟩ := skipP u0 p hw 6 hf out ho (by omega) 0 (by omega) (by omega)
      rcases hcase with ⟨rfl, rfl, m, hm, rfl⟩ | ⟨rfl, rfl, rfl⟩
      · exact sl2 u0 p fs sb bh ct _ _ ⟨skipNo u0 _ (N m hm), hd, s, rl, z, trivial⟩
      · exact (sl3 u0 p fs sb r ct _ _ ⟨sameLeft _ r, skipYes u0 _ r (by omega) (Y r (by simp; omega)), hd, s, rl, z, trivial⟩).cast rfl rfl rfl rfl
  · exact sl0 u0 p fs sb bh ct ⟨zzNo _ p fs sb bh ct hb, trivial⟩
end
end Go.Ax
