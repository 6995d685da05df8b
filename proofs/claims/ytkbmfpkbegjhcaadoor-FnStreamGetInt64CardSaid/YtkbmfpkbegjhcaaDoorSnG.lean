/-
  Laws of a Reader's numbers over a stream, each by a contract.
-/
import Derived.Test.YtkbmfpkbegjhcaaDoorSnE
import Derived.Test.YtkbmfpkbegjhcaaDoorSiB
import Derived.Test.YtkbmfpkbegjhcaaDoorInL
set_option linter.unusedVariables false
set_option linter.unusedSimpArgs false
set_option maxRecDepth 100000
namespace Go.Ax
open Go.Proofs

theorem fulli (l : List Int) (hv : ∀ x ∈ l, -9223372036854775808 ≤ x ∧ x ≤ 9223372036854775807) (st : Int) (hl : l.length ≤ 65536) : ∃ gs : Nat → List UInt8,
    (∀ c, A0 13 [.own 0 0 l.length c, uL st] [.cells 31 5 (cellsL 2 numi txti l)] (.bts (catM gs 0 l.length)) [.gone]) ∧ (l = [] → A0 13 [nL, uL st] [] (.bts (catM gs 0 l.length)) []) ∧
    ∀ z g : Nat, (18 ≤ z ∧ z ≤ 65536) → (1 ≤ g ∧ g ≤ 65536) → A0 30 [.bts (catM gs 0 l.length), iL l.length, iL z, iL g] [] (.tup [.ro 1 l.length (fun i => [iL (l.getD i 0)]), bL true]) [] := by
  obtain ⟨gs, hq, hw, he⟩ := writtenL 2 numi txti l 0 st (by omega) (fun x y => IntOut (numi x) true y) 9 (by decide) (fun x hm st => by
    have hx := hv x hm
    exact putU 2 (numi x) (txti x) (by decide) (by simp only [numi]; rw [wrapU64]; omega) (by simp only [numi]; rw [wrapU64]; omega) st)
  refine ⟨gs, hw, he, fun z g hz hg => ?_⟩
  have hlen := catM_len (g := gs) (B := 9) l.length 0 (fun j h1 h2 => (hq j (by omega)).2.2)
  exact streami z g hz hg l gs hl (by omega) (fun i hi => getsi l[i] (hv _ (List.getElem_mem _)) (gs i) (hq i hi).1)

theorem lawi (l : List Int) (hv : ∀ x ∈ l, -9223372036854775808 ≤ x ∧ x ≤ 9223372036854775807) (st a c : Int) : A0 7 [.ro 1 l.length (fun i => [iL (l.getD i 0)]), uL st, iL a, iL c] [] (bL true) [] := by
  by_cases h1 : (2147483647 : Int) < l.length
  · exact lai1 st a c l ⟨by simp [h1], trivial⟩
  · have d0 : decide ((l.length : Int) > 2147483647) = false := by simp; omega
    obtain ⟨gs, s0, _, s3⟩ := fulli [5] (by simp) 0 (by decide)
    have s1 : A0 13 [.own 0 0 1 (some 1), uL 0] [.cells 31 5 [iL 2, uL 5, sL (ByteArray.mk #[]), iL 0, nL]] (.bts (catM gs 0 1)) [.gone] := s0 (some 1)
    have s2 : A0 30 [.bts (catM gs 0 1), iL 1, iL 100, iL 1] [] (.tup [.ro 1 1 (fun i => [iL 5]), bL true]) [] := (s3 100 1 (by decide) (by decide)).le (leAll_refl _) (Le_tup ⟨Le_ro fun i hi => by rw [show i = 0 by simp at hi; omega]; rfl, Le.refl _, trivial⟩) rfl
    have b := buffersC a c
    by_cases hb : 18 ≤ a ∧ a ≤ 65536 ∧ 1 ≤ c ∧ c ≤ 65536
    · obtain ⟨z, rfl⟩ := Int.eq_ofNat_of_zero_le (show 0 ≤ a by omega)
      obtain ⟨g, rfl⟩ := Int.eq_ofNat_of_zero_le (show 0 ≤ c by omega)
      rw [decide_eq_true hb] at b
      by_cases h2 : l.length ≤ 100
      · have d1 : decide ((l.length : Int) > 100) = false := by simp; omega
        obtain ⟨ds, w0, w1, w2⟩ := fulli l hv st (by omega)
        have e := w2 z g (by omega) (by omega)
        have sm := samei l (by omega)
        rcases Nat.eq_zero_or_pos l.length with h3 | h3
        · obtain rfl := List.eq_nil_of_length_eq_zero h3
          have lp : C0 86 (.loop (loopAt Tryd.f7 0)) (sli st z g [] 0 nL) [] (.exit 0) (outi st z g [] nL) [] := (LoopC.exit (gliy st z g [] 0 ⟨by simp, trivial⟩) (by simp)).code
          have w := w1 rfl
          refine lai4 st z g [] (catM gs 0 1) (catM ds 0 0) ?_
          simp only [AllP, leAll]
          repeat' (first | exact trivial | exact rfl | exact s1 | exact s2 | exact b | exact lp | exact w | exact e | exact sm | exact d0 | exact d1 | exact Le.refl _ | exact RowLe.refl _ | omega | with_reducible apply And.intro)
        · have lp := giveni st z g l (by omega) h3
          have w := w0 none
          refine lai5 st z g l (catM gs 0 1) (catM ds 0 l.length) l.length (cellsL 2 numi txti l) ?_
          simp only [AllP, leAll, cellsL_ren]
          repeat' (first | exact trivial | exact rfl | exact s1 | exact s2 | exact b | exact lp | exact w | exact e | exact sm | exact d0 | exact d1 | exact Le.refl _ | exact RowLe.refl _ | omega | with_reducible apply And.intro)
      · have d1 : decide ((l.length : Int) > 100) = true := by simp; omega
        refine lai3 st z g l (catM gs 0 1) ?_
        simp only [AllP, leAll]
        repeat' (first | exact trivial | exact rfl | exact s1 | exact s2 | exact b | exact d0 | exact d1 | exact Le.refl _ | exact RowLe.refl _ | omega | with_reducible apply And.intro)
    · rw [decide_eq_false hb] at b
      refine lai2 st a c l (catM gs 0 1) ?_
      simp only [AllP, leAll]
      repeat' (first | exact trivial | exact rfl | exact s1 | exact s2 | exact b | exact d0 | exact Le.refl _ | exact RowLe.refl _ | omega | with_reducible apply And.intro)
end Go.Ax
