/-
  impl.taking: what a Reader over a stream reads item by item.
-/
import Derived.Test.YtkbmfpkbegjhcaaDoorSnB
set_option linter.unusedVariables false
set_option linter.unusedSimpArgs false
set_option maxRecDepth 100000
namespace Go.Ax
open Go.Proofs

theorem renL_lit {α : Type} (v : α → Value) (f : Nat → Option Nat) (l : List α) : AV.renL f (l.map fun x => AV.lit (v x)) = l.map fun x => AV.lit (v x) := by
  induction l with
  | nil => rfl
  | cons x l ih => simp only [List.map_cons, AV.renL, AV.ren, ih]
/-! ### b -/
abbrev rowsTb (z g o r lb p : Nat) (bf dat : List UInt8) (l : List UInt8) : List Row := [rdrR 1048576 1048576, .cells 212 5 [.ifc 203 (.ptr 2 0), .own 3 0 lb (some bf.length), iL p, iL z, nI], drpR 4 o r g, .bytes 5 bf, .bytes 5 dat, .bytes 5 l]
abbrev rowsVb (z g o r lb p : Nat) (bf dat : List UInt8) (l : List UInt8) : List Row := [rdrR 1048576 1048576, .cells 212 5 [.ifc 203 (.ptr 2 0), .own 4 0 lb (some bf.length), iL p, iL z, nI], drpR 5 o r g, .gone, .bytes 5 bf, .bytes 5 dat, .bytes 5 l]
abbrev slTb (n i : Nat) (out : AV) : List (Nat × AV) := [(4, .lit (.func (.func 72) #[] #[])), (12, .ptr 0 0), (13, out), (23, iL n), (24, iL i)]

/-! ### u -/
abbrev rowsTu (z g o r lb p : Nat) (bf dat : List UInt8) (l : List Int) : List Row := [rdrR 1048576 1048576, .cells 212 5 [.ifc 203 (.ptr 2 0), .own 3 0 lb (some bf.length), iL p, iL z, nI], drpR 4 o r g, .bytes 5 bf, .bytes 5 dat, .cells 23 1 (l.map fun x => uL x)]
abbrev rowsVu (z g o r lb p : Nat) (bf dat : List UInt8) (l : List Int) : List Row := [rdrR 1048576 1048576, .cells 212 5 [.ifc 203 (.ptr 2 0), .own 4 0 lb (some bf.length), iL p, iL z, nI], drpR 5 o r g, .gone, .bytes 5 bf, .bytes 5 dat, .cells 23 1 (l.map fun x => uL x)]
abbrev slTu (n i : Nat) (out : AV) : List (Nat × AV) := [(4, .lit (.func (.func 69) #[] #[])), (12, .ptr 0 0), (13, out), (23, iL n), (24, iL i)]

/-! ### i -/
abbrev rowsTi (z g o r lb p : Nat) (bf dat : List UInt8) (l : List Int) : List Row := [rdrR 1048576 1048576, .cells 212 5 [.ifc 203 (.ptr 2 0), .own 3 0 lb (some bf.length), iL p, iL z, nI], drpR 4 o r g, .bytes 5 bf, .bytes 5 dat, .cells 2 1 (l.map fun x => iL x)]
abbrev rowsVi (z g o r lb p : Nat) (bf dat : List UInt8) (l : List Int) : List Row := [rdrR 1048576 1048576, .cells 212 5 [.ifc 203 (.ptr 2 0), .own 4 0 lb (some bf.length), iL p, iL z, nI], drpR 5 o r g, .gone, .bytes 5 bf, .bytes 5 dat, .cells 2 1 (l.map fun x => iL x)]
abbrev slTi (n i : Nat) (out : AV) : List (Nat × AV) := [(4, .lit (.func (.func 66) #[] #[])), (12, .ptr 0 0), (13, out), (23, iL n), (24, iL i)]

/-! ### s -/
abbrev rowsTs (z g o r lb p : Nat) (bf dat : List UInt8) (l : List ByteArray) : List Row := [rdrR 1048576 1048576, .cells 212 5 [.ifc 203 (.ptr 2 0), .own 3 0 lb (some bf.length), iL p, iL z, nI], drpR 4 o r g, .bytes 5 bf, .bytes 5 dat, .cells 9 1 (l.map fun x => sL x)]
abbrev rowsVs (z g o r lb p : Nat) (bf dat : List UInt8) (l : List ByteArray) : List Row := [rdrR 1048576 1048576, .cells 212 5 [.ifc 203 (.ptr 2 0), .own 4 0 lb (some bf.length), iL p, iL z, nI], drpR 5 o r g, .gone, .bytes 5 bf, .bytes 5 dat, .cells 9 1 (l.map fun x => sL x)]
abbrev slTs (n i : Nat) (out : AV) : List (Nat × AV) := [(4, .lit (.func (.func 41) #[] #[])), (12, .ptr 0 0), (13, out), (23, iL n), (24, iL i)]

theorem takeLoops (l : List ByteArray) (gs : Nat → List UInt8) (hl : l.length ≤ 100000) (hg : ∀ i, (h : i < l.length) → Gets 41 (.tup [sL l[i], nI]) (gs i)) :
    ∀ (m i : Nat), l.length - i = m → i ≤ l.length → ∀ (T z g o r lb p : Nat) (bf dat : List UInt8), Held T z g o r lb p bf dat (catM gs i m) →
      ∃ o2 r2 l2 p2 bf2, LoopK Tryd.prog noG 3 40 (loopAt Tryd.f40 0) (slTs l.length i (.own 5 0 i none)) (rowsTs z g o r lb p bf dat (l.take i)) (.exit 0) [(13, .own 5 0 l.length none)] (rowsTs z g o2 r2 l2 p2 bf2 dat l)
  | 0, i, hm, hi, T, z, g, o, r, lb, p, bf, dat, S => by
    have he : i = l.length := by omega
    subst he
    refine ⟨o, r, lb, p, bf, ?_⟩
    have e := LoopK.exit (k := 3) (tksx z g o r lb p bf dat l.length l.length l.length ((l.take l.length).map fun x => sL x) ⟨by simp, trivial⟩) (by simp)
    refine e.cast rfl rfl rfl ?_
    rw [renL_lit, List.take_length]
  | m + 1, i, hm, hi, T, z, g, o, r, lb, p, bf, dat, S => by
    have hlt : i < l.length := by omega
    obtain ⟨o2, r2, l2, p2, bf2, S2, C⟩ := (hg i hlt).1 T z g o r lb p bf dat (catM gs (i + 1) m) S
    have w := wrapS i (by omega)
    have hd : decide ((i : Int) < l.length) = true := by simp; omega
    have e := tksg z g o r lb p o2 r2 l2 p2 bf bf2 dat l[i] l.length i i ((l.take i).map fun x => sL x) (by
      simp only [AllP, leAll]
      skip
      repeat' (first | exact trivial | exact rfl | exact C | exact hd | exact Le.refl _ | exact RowLe.refl _ | omega | with_reducible apply And.intro))
    rw [w] at e
    obtain ⟨o3, r3, l3, p3, bf3, ih⟩ := takeLoops l gs hl hg m (i + 1) (by omega) (by omega) T z g o2 r2 l2 p2 bf2 dat S2
    refine ⟨o3, r3, l3, p3, bf3, LoopK.step [some 0, some 1, some 2, some 7, some 8, some 6] e rfl (ih.cast rfl ?_ rfl rfl)⟩
    have ho : List.take (i * 1) (List.drop 0 ((l.take i).map fun x => sL x)) ++ [sL l[i]] = (l.take (i + 1)).map fun x => sL x := by
      rw [List.take_succ_eq_append_getElem hlt, List.map_append, List.drop_zero, List.take_of_length_le (by simp; omega)]; rfl
    rw [ho, renL_lit]
    simp only [outM, hL, nth, Row.ren, Option.getD_some, renL_lit]
    rfl

theorem takes (z g : Nat) (hz : 18 ≤ z ∧ z ≤ 65536) (hg1 : 1 ≤ g ∧ g ≤ 65536) (l : List ByteArray) (gs : Nat → List UInt8) (hl : l.length ≤ 65536) (hlen : (catM gs 0 l.length).length ≤ 1000000000000)
    (hg : ∀ i, (h : i < l.length) → Gets 41 (.tup [sL l[i], nI]) (gs i)) :
    ∃ o r lb p bf, C0 40 (loopAt Tryd.f40 0).loop (slTs l.length 0 nL) (rowsRN z g 0 (catM gs 0 l.length).length (catM gs 0 l.length)) (.exit 0) [(13, .own 6 0 l.length none)] (rowsVs z g o r lb p bf (catM gs 0 l.length) l) ∨ l = [] := by
  rcases Nat.eq_zero_or_pos l.length with h0 | h0
  · exact ⟨0, 0, 0, 0, [], .inr (List.eq_nil_of_length_eq_zero h0)⟩
  · obtain ⟨m, hm⟩ : ∃ m, l.length = m + 1 := ⟨l.length - 1, by omega⟩
    have hcat : catM gs 0 l.length = gs 0 ++ catM gs 1 m := by rw [hm]; rfl
    rw [hcat] at hlen ⊢
    obtain ⟨o2, r2, l2, p2, bf2, S2, C⟩ := (hg 0 h0).2 (gs 0 ++ catM gs 1 m).length z g (catM gs 1 m) (by omega) hlen (by omega) hg1
    have w := wrapS 0 (by omega)
    have hd : decide (((0 : Nat) : Int) < l.length) = true := by simp; omega
    have e := tksf z g 0 (gs 0 ++ catM gs 1 m).length o2 r2 l2 p2 bf2 (gs 0 ++ catM gs 1 m) l[0] l.length 0 (by
      simp only [AllP, leAll]
      skip
      repeat' (first | exact trivial | exact rfl | exact C | exact hd | exact Le.refl _ | exact RowLe.refl _ | omega | with_reducible apply And.intro))
    rw [w] at e
    obtain ⟨o3, r3, l3, p3, bf3, ih⟩ := takeLoops l gs (by omega) hg m 1 (by omega) (by omega) _ z g o2 r2 l2 p2 bf2 (gs 0 ++ catM gs 1 m) S2
    have hs := List.take_succ_eq_append_getElem h0
    simp only [List.take_zero, List.nil_append, Nat.zero_add] at hs
    refine ⟨o3, r3, l3, p3, bf3, .inl ?_⟩
    have e3 := LoopK.step (k := 3) [some 0, some 1, some 2, some 5, some 6, some 4] e rfl (ih.cast rfl (by
      rw [hs]
      skip
      rfl) rfl rfl)
    refine (LoopK.code [some 0, some 1, some 2, none, some 3, some 4, some 5] e3 rfl rfl).cast rfl rfl rfl ?_
    simp only [outM, hL, nth, Row.ren, Option.getD_some, renL_lit]; rfl

/-! ### m -/
abbrev rowsTm (z g o r lb p : Nat) (bf dat : List UInt8) (l : List ByteArray) : List Row := [rdrR 1048576 1048576, .cells 212 5 [.ifc 203 (.ptr 2 0), .own 3 0 lb (some bf.length), iL p, iL z, nI], drpR 4 o r g, .bytes 5 bf, .bytes 5 dat, .cells 9 1 (l.map fun x => sL x)]
abbrev rowsVm (z g o r lb p : Nat) (bf dat : List UInt8) (l : List ByteArray) : List Row := [rdrR 1048576 1048576, .cells 212 5 [.ifc 203 (.ptr 2 0), .own 4 0 lb (some bf.length), iL p, iL z, nI], drpR 5 o r g, .gone, .bytes 5 bf, .bytes 5 dat, .cells 9 1 (l.map fun x => sL x)]
abbrev slTm (n i : Nat) (out : AV) : List (Nat × AV) := [(4, .lit (.func (.func 63) #[] #[])), (12, .ptr 0 0), (13, out), (23, iL n), (24, iL i)]

theorem takeLoopm (l : List ByteArray) (gs : Nat → List UInt8) (hl : l.length ≤ 100000) (hg : ∀ i, (h : i < l.length) → Gets 63 (.tup [sL l[i], nI]) (gs i)) :
    ∀ (m i : Nat), l.length - i = m → i ≤ l.length → ∀ (T z g o r lb p : Nat) (bf dat : List UInt8), Held T z g o r lb p bf dat (catM gs i m) →
      ∃ o2 r2 l2 p2 bf2, LoopK Tryd.prog noG 3 40 (loopAt Tryd.f40 0) (slTm l.length i (.own 5 0 i none)) (rowsTm z g o r lb p bf dat (l.take i)) (.exit 0) [(13, .own 5 0 l.length none)] (rowsTm z g o2 r2 l2 p2 bf2 dat l)
  | 0, i, hm, hi, T, z, g, o, r, lb, p, bf, dat, S => by
    have he : i = l.length := by omega
    subst he
    refine ⟨o, r, lb, p, bf, ?_⟩
    have e := LoopK.exit (k := 3) (tkmx z g o r lb p bf dat l.length l.length l.length ((l.take l.length).map fun x => sL x) ⟨by simp, trivial⟩) (by simp)
    refine e.cast rfl rfl rfl ?_
    rw [renL_lit, List.take_length]
  | m + 1, i, hm, hi, T, z, g, o, r, lb, p, bf, dat, S => by
    have hlt : i < l.length := by omega
    obtain ⟨o2, r2, l2, p2, bf2, S2, C⟩ := (hg i hlt).1 T z g o r lb p bf dat (catM gs (i + 1) m) S
    have w := wrapS i (by omega)
    have hd : decide ((i : Int) < l.length) = true := by simp; omega
    have e := tkmg z g o r lb p o2 r2 l2 p2 bf bf2 dat l[i] l.length i i ((l.take i).map fun x => sL x) (by
      simp only [AllP, leAll]
      skip
      repeat' (first | exact trivial | exact rfl | exact C | exact hd | exact Le.refl _ | exact RowLe.refl _ | omega | with_reducible apply And.intro))
    rw [w] at e
    obtain ⟨o3, r3, l3, p3, bf3, ih⟩ := takeLoopm l gs hl hg m (i + 1) (by omega) (by omega) T z g o2 r2 l2 p2 bf2 dat S2
    refine ⟨o3, r3, l3, p3, bf3, LoopK.step [some 0, some 1, some 2, some 7, some 8, some 6] e rfl (ih.cast rfl ?_ rfl rfl)⟩
    have ho : List.take (i * 1) (List.drop 0 ((l.take i).map fun x => sL x)) ++ [sL l[i]] = (l.take (i + 1)).map fun x => sL x := by
      rw [List.take_succ_eq_append_getElem hlt, List.map_append, List.drop_zero, List.take_of_length_le (by simp; omega)]; rfl
    rw [ho, renL_lit]
    simp only [outM, hL, nth, Row.ren, Option.getD_some, renL_lit]
    rfl

theorem takem (z g : Nat) (hz : 18 ≤ z ∧ z ≤ 65536) (hg1 : 1 ≤ g ∧ g ≤ 65536) (l : List ByteArray) (gs : Nat → List UInt8) (hl : l.length ≤ 65536) (hlen : (catM gs 0 l.length).length ≤ 1000000000000)
    (hg : ∀ i, (h : i < l.length) → Gets 63 (.tup [sL l[i], nI]) (gs i)) :
    ∃ o r lb p bf, C0 40 (loopAt Tryd.f40 0).loop (slTm l.length 0 nL) (rowsRN z g 0 (catM gs 0 l.length).length (catM gs 0 l.length)) (.exit 0) [(13, .own 6 0 l.length none)] (rowsVm z g o r lb p bf (catM gs 0 l.length) l) ∨ l = [] := by
  rcases Nat.eq_zero_or_pos l.length with h0 | h0
  · exact ⟨0, 0, 0, 0, [], .inr (List.eq_nil_of_length_eq_zero h0)⟩
  · obtain ⟨m, hm⟩ : ∃ m, l.length = m + 1 := ⟨l.length - 1, by omega⟩
    have hcat : catM gs 0 l.length = gs 0 ++ catM gs 1 m := by rw [hm]; rfl
    rw [hcat] at hlen ⊢
    obtain ⟨o2, r2, l2, p2, bf2, S2, C⟩ := (hg 0 h0).2 (gs 0 ++ catM gs 1 m).length z g (catM gs 1 m) (by omega) hlen (by omega) hg1
    have w := wrapS 0 (by omega)
    have hd : decide (((0 : Nat) : Int) < l.length) = true := by simp; omega
    have e := tkmf z g 0 (gs 0 ++ catM gs 1 m).length o2 r2 l2 p2 bf2 (gs 0 ++ catM gs 1 m) l[0] l.length 0 (by
      simp only [AllP, leAll]
      skip
      repeat' (first | exact trivial | exact rfl | exact C | exact hd | exact Le.refl _ | exact RowLe.refl _ | omega | with_reducible apply And.intro))
    rw [w] at e
    obtain ⟨o3, r3, l3, p3, bf3, ih⟩ := takeLoopm l gs (by omega) hg m 1 (by omega) (by omega) _ z g o2 r2 l2 p2 bf2 (gs 0 ++ catM gs 1 m) S2
    have hs := List.take_succ_eq_append_getElem h0
    simp only [List.take_zero, List.nil_append, Nat.zero_add] at hs
    refine ⟨o3, r3, l3, p3, bf3, .inl ?_⟩
    have e3 := LoopK.step (k := 3) [some 0, some 1, some 2, some 5, some 6, some 4] e rfl (ih.cast rfl (by
      rw [hs]
      skip
      rfl) rfl rfl)
    refine (LoopK.code [some 0, some 1, some 2, none, some 3, some 4, some 5] e3 rfl rfl).cast rfl rfl rfl ?_
    simp only [outM, hL, nth, Row.ren, Option.getD_some, renL_lit]; rfl
end Go.Ax
