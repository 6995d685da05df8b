/-
  Values of MessagePack that came in; what a law of reading is given; the laws themselves.
-/
import Derived.Test.YtdfefemnlimeeaaDoorGtO
import Derived.Test.YtdfefemnlimeeaaDoorGtN
import Derived.KernelRfl
set_option linter.unusedVariables false
set_option linter.unusedSimpArgs false
set_option maxRecDepth 100000
namespace Go.Ax
open Go.Proofs

theorem list5 {α : Type} {cs : List α} (h : cs.length = 5) : ∃ a b c d e, cs = [a, b, c, d, e] := by
  match cs, h with
  | [a, b, c, d, e], _ => exact ⟨a, b, c, d, e, rfl⟩
theorem list9 {α : Type} {cs : List α} (h : cs.length = 9) : ∃ a b c d e f g i j, cs = [a, b, c, d, e, f, g, i, j] := by
  match cs, h with
  | [a, b, c, d, e, f, g, i, j], _ => exact ⟨a, b, c, d, e, f, g, i, j, rfl⟩

section
variable {H : Type} {enc : TypeId × Value → H} {w : World} {base : Nat} {spare : Nat → Bool} {held : Bool}

theorem cell1 : Tryd.prog.cellsOf 3 = 1 ∧ Tryd.prog.cellsOf 22 = 1 ∧ Tryd.prog.cellsOf 9 = 1 ∧ Tryd.prog.cellsOf 23 = 1 ∧ Tryd.prog.cellsOf 26 = 1 ∧ Tryd.prog.cellsOf 4 = 1 ∧ Tryd.prog.cellsOf 5 = 1 ∧ Tryd.prog.cellsOf 25 = 5 ∧ Tryd.prog.cellsOf 28 = 9 :=
  ⟨by kernel_rfl, by kernel_rfl, by kernel_rfl, by kernel_rfl, by kernel_rfl, by kernel_rfl, by kernel_rfl, by kernel_rfl, by kernel_rfl⟩

theorem max_le : maxLen ≤ 9223372036854775807 := by decide

theorem in_pack : ∀ (fuel : Nat) (cs : List Value) (x : DataW H × List MemPlace), DataW.trod enc Tryd.prog w base spare held fuel 25 cs = some x → ∃ p : PackT, DRs (Oin w) w (pcells p) cs ∧ p.wf := by
  intro fuel
  induction fuel using Nat.strongRecOn with
  | ind fuel ih =>
    intro cs x h
    obtain ⟨c3, c22, c9, c23, c26, c4, c5, c25, c28⟩ := cell1
    obtain ⟨n, rfl, hl, hf⟩ := in_field Tryd.underlying25 h
    rw [c25] at hl
    obtain ⟨a0, a1, a2, a3, a4, rfl⟩ := list5 hl
    obtain ⟨y0, h0⟩ : ∃ y, DataW.trod enc Tryd.prog w base spare held n 3 (([a0, a1, a2, a3, a4].drop 0).take (Tryd.prog.cellsOf 3)) = some y := hf 0 _ rfl
    rw [c3] at h0
    obtain ⟨y1, h1⟩ : ∃ y, DataW.trod enc Tryd.prog w base spare held n 22 (([a0, a1, a2, a3, a4].drop 1).take (Tryd.prog.cellsOf 22)) = some y := hf 1 _ rfl
    rw [c22] at h1
    obtain ⟨y2, h2⟩ : ∃ y, DataW.trod enc Tryd.prog w base spare held n 9 (([a0, a1, a2, a3, a4].drop 2).take (Tryd.prog.cellsOf 9)) = some y := hf 2 _ rfl
    rw [c9] at h2
    obtain ⟨y3, h3⟩ : ∃ y, DataW.trod enc Tryd.prog w base spare held n 3 (([a0, a1, a2, a3, a4].drop 3).take (Tryd.prog.cellsOf 3)) = some y := hf 3 _ rfl
    rw [c3] at h3
    obtain ⟨y4, h4⟩ : ∃ y, DataW.trod enc Tryd.prog w base spare held n 23 (([a0, a1, a2, a3, a4].drop 4).take (Tryd.prog.cellsOf 23)) = some y := hf 4 _ rfl
    rw [c23] at h4
    obtain ⟨k, d0, -, -⟩ := in_int Tryd.underlying3 h0
    obtain ⟨u, d1, u0, u1⟩ := in_int Tryd.underlying22 h1
    obtain ⟨t, d2, ht⟩ := in_string Tryd.underlying9 h2
    obtain ⟨e, d3, -, -⟩ := in_int Tryd.underlying3 h3
    obtain ⟨m, f, d4, hm, hw⟩ := in_slice PackT.nul pcells PackT.wf Tryd.underlying23 (fun a => by rw [c25]; rfl) (by rw [c25]; decide) (fun n' cs' x' hn hx => ih n' (by omega) cs' x' hx) h4
    rw [c25] at d4
    refine ⟨.mk k u t e m f, ?_, ?_⟩
    · exact d0.append (d1.append (d2.append (d3.append d4)))
    · have m0 : IntKind.min .u64 = 0 := by decide
      have m1 : IntKind.max .u64 = 18446744073709551615 := by decide
      have := max_le
      rw [m0] at u0; rw [m1] at u1
      exact ⟨u0, by omega, by omega, by omega, hw⟩

theorem in_given {fuel : Nat} {vs : Array Value} {x : DataW H × List MemPlace} (h : DataW.trod enc Tryd.prog w base spare held fuel 28 (Value.agg vs).cells.toList = some x) :
    ∃ (p : PackT) (fs : Int) (sb : Bool) (bh : List UInt8) (ct : Int), p.wf ∧ DR (Oin w) w (gAV p fs sb bh ct) (.agg vs) := by
  obtain ⟨c3, c22, c9, c23, c26, c4, c5, c25, c28⟩ := cell1
  obtain ⟨n, rfl, hl, hf⟩ := in_field Tryd.underlying28 h
  rw [c28] at hl
  have hcs : (Value.agg vs).cells.toList = vs.toList := rfl
  rw [hcs] at hl hf
  obtain ⟨a0, a1, a2, a3, a4, a5, a6, a7, a8, hv⟩ := list9 hl
  rw [hv] at hf
  obtain ⟨y0, h0⟩ : ∃ y, DataW.trod enc Tryd.prog w base spare held n 25 (([a0, a1, a2, a3, a4, a5, a6, a7, a8].drop 0).take (Tryd.prog.cellsOf 25)) = some y := hf 0 _ rfl
  rw [c25] at h0
  obtain ⟨y1, h1⟩ : ∃ y, DataW.trod enc Tryd.prog w base spare held n 22 (([a0, a1, a2, a3, a4, a5, a6, a7, a8].drop 5).take (Tryd.prog.cellsOf 22)) = some y := hf 1 _ rfl
  rw [c22] at h1
  obtain ⟨y2, h2⟩ : ∃ y, DataW.trod enc Tryd.prog w base spare held n 4 (([a0, a1, a2, a3, a4, a5, a6, a7, a8].drop 6).take (Tryd.prog.cellsOf 4)) = some y := hf 2 _ rfl
  rw [c4] at h2
  obtain ⟨y3, h3⟩ : ∃ y, DataW.trod enc Tryd.prog w base spare held n 26 (([a0, a1, a2, a3, a4, a5, a6, a7, a8].drop 7).take (Tryd.prog.cellsOf 26)) = some y := hf 3 _ rfl
  rw [c26] at h3
  obtain ⟨y4, h4⟩ : ∃ y, DataW.trod enc Tryd.prog w base spare held n 3 (([a0, a1, a2, a3, a4, a5, a6, a7, a8].drop 8).take (Tryd.prog.cellsOf 3)) = some y := hf 4 _ rfl
  rw [c3] at h4
  obtain ⟨p, d0, hw⟩ := in_pack _ _ _ h0
  obtain ⟨fs, d1, -, -⟩ := in_int Tryd.underlying22 h1
  obtain ⟨sb, d2⟩ := in_bool Tryd.underlying4 h2
  obtain ⟨bh, d3, -⟩ := in_bytes Tryd.underlying26 Tryd.underlying5 c5 h3
  obtain ⟨ct, d4, -, -⟩ := in_int Tryd.underlying3 h4
  refine ⟨p, fs, sb, bh, ct, hw, ?_⟩
  have D := d0.append (d1.append (d2.append (d3.append d4)))
  refine .agg (by have := congrArg List.length hv; simp at this; simp [gcells, this]) fun j c v hc hvj => ?_
  refine D.2 j c v hc ?_
  rw [← Array.getElem?_toList, hv] at hvj
  exact hvj
end

/-! ### nil -/
theorem leftErr (G : Env) (t : Nat) (x : List UInt8) : ACalls Tryd.prog G 20 [.bts x, errAV t] [] (.tup [.lit (.slice none 0 0), .lit (.bool false)]) [] :=
  (lf20a t (.bts x) trivial).anyG G

theorem copyC (x : List UInt8) (h : x.length ≤ 140737488355328) : ACalls Tryd.prog noG 26 [.bts x] [] (.bts x) [] :=
  (((cp26 x ⟨by omega, trivial⟩).freezeRet 0 rfl rfl).only [] rfl).cast rfl rfl (by simp [AV.frz, frzOwn, AV.ren, List.take_of_length_le]) rfl

theorem leftOk (G : Env) (x : List UInt8) (h : x.length ≤ 140737488355328) : ACalls Tryd.prog G 20 [.bts x, .lit .nilIface] [] (.tup [.bts x, .lit (.bool true)]) [] :=
  (lf20b x ⟨copyC x h, trivial⟩).anyG G

theorem sameLeft (G : Env) (x : List UInt8) : ACalls Tryd.prog G 12 [.bts x, .bts x] [] (.lit (.bool true)) [] :=
  ((lf12 x x trivial).cast rfl rfl (by simp) rfl).anyG G

section
variable (u0 : Nat)

theorem nilShort : ACalls Tryd.prog (gS u0) 21 [.bts []] [] (.tup [.bts [], errAV u0]) [] :=
  (nl1 u0 trivial).le (leAll_refl _) (Le_nil_tup _) rfl

theorem getNilNo (d : List UInt8) (h : d = [] ∨ ∃ b r, d = b :: r ∧ b.toNat ≠ 192) : ACalls Tryd.prog (gS u0) 10 [.bts d] [] (.tup [.lit (.slice none 0 0), .lit (.bool false)]) [] := by
  rcases h with rfl | ⟨b, r, rfl, hb⟩
  · exact gn1 u0 [] [] u0 ⟨leftErr _ _ _, nilShort u0, trivial⟩
  · obtain ⟨t, ht⟩ := badP (gS u0) 10 b
    have := nl2 u0 b r t ⟨ht, leAll_refl _, by simp, by simp; omega, by simp, trivial⟩
    exact gn1 u0 (b :: r) (b :: r) t ⟨leftErr _ _ _, this, trivial⟩

theorem getNilYes (r : List UInt8) (h : r.length ≤ 140737488355328) : ACalls Tryd.prog (gS u0) 10 [.bts (192 :: r)] [] (.tup [.bts r, .lit (.bool true)]) [] := by
  have := (nl3 u0 r ⟨by simp; omega, by simp, trivial⟩).cast rfl rfl (show _ = AV.tup [.bts r, .lit .nilIface] by simp [List.take_of_length_le]) rfl
  exact gn2 u0 (192 :: r) r ⟨leftOk _ r h, this, trivial⟩

theorem getNilSample : ACalls Tryd.prog (gS u0) 10 [.own 0 0 1 (some 1)] [.bytes 5 [192]] (.tup [.bts [], .lit (.bool true)]) [.gone] :=
  ACalls.freezeArg 0 rfl rfl ((getNilYes u0 [] (by simp)).frame [.gone] (by simp [leAll, AV.ren]) rfl)

theorem zzYes (G : Env) (p : PackT) (fs : Int) (sb : Bool) (bh : List UInt8) (ct : Int) (h : bh.length ≤ 2147483647) : ACalls Tryd.prog G 9 [gAV p fs sb bh ct] [] (.lit (.bool true)) [] :=
  (zz1 p fs sb bh ct ⟨by simp; omega, trivial⟩).anyG G
end
end Go.Ax
