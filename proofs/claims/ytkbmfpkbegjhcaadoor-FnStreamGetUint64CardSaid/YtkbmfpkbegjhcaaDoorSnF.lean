/-
  Laws of a Reader's numbers over a stream, each by a contract.
-/
import Derived.Test.YtkbmfpkbegjhcaaDoorSnE
import Derived.Test.YtkbmfpkbegjhcaaDoorInL
set_option linter.unusedVariables false
set_option linter.unusedSimpArgs false
set_option maxRecDepth 100000
namespace Go.Ax
open Go.Proofs
theorem getsu (x : Int) (hv : 0 ≤ x ∧ x < 18446744073709551616) (y : List UInt8) (h : IntOut (numu x) false y) : Gets 69 (.tup [uL x, nI]) y := by
  have q := readInt (numu x) (by simp only [numu]; omega) (by simp only [numu]; omega) y h
  obtain ⟨n, rfl⟩ := Int.eq_ofNat_of_zero_le hv.1
  exact ⟨q.1.takerU, q.2.takerU⟩

theorem fullu (l : List Int) (hv : ∀ x ∈ l, 0 ≤ x ∧ x < 18446744073709551616) (st : Int) (hl : l.length ≤ 65536) : ∃ gs : Nat → List UInt8,
    (∀ c, A0 13 [.own 0 0 l.length c, uL st] [.cells 31 5 (cellsL 3 numu txtu l)] (.bts (catM gs 0 l.length)) [.gone]) ∧ (l = [] → A0 13 [nL, uL st] [] (.bts (catM gs 0 l.length)) []) ∧
    ∀ z g : Nat, (18 ≤ z ∧ z ≤ 65536) → (1 ≤ g ∧ g ≤ 65536) → A0 32 [.bts (catM gs 0 l.length), iL l.length, iL z, iL g] [] (.tup [.ro 1 l.length (fun i => [uL (l.getD i 0)]), bL true]) [] := by
  obtain ⟨gs, hq, hw, he⟩ := writtenL 3 numu txtu l 0 st (by omega) (fun x y => IntOut (numu x) false y) 9 (by decide) (fun x hm st => by
    have hx := hv x hm
    exact putU 3 (numu x) (txtu x) (by decide) (by simp only [numu]; omega) (by simp only [numu]; omega) st)
  refine ⟨gs, hw, he, fun z g hz hg => ?_⟩
  have hlen := catM_len (g := gs) (B := 9) l.length 0 (fun j h1 h2 => (hq j (by omega)).2.2)
  exact streamu z g hz hg l gs hl (by omega) (fun i hi => getsu l[i] (hv _ (List.getElem_mem _)) (gs i) (hq i hi).1)

theorem lawu (l : List Int) (hv : ∀ x ∈ l, 0 ≤ x ∧ x < 18446744073709551616) (st a c : Int) : A0 8 [.ro 1 l.length (fun i => [uL (l.getD i 0)]), uL st, iL a, iL c] [] (bL true) [] := by
  by_cases h1 : (2147483647 : Int) < l.length
  · exact lau1 st a c l ⟨by simp [h1], trivial⟩
  · have d0 : decide ((l.length : Int) > 2147483647) = false := by simp; omega
    obtain ⟨gs, s0, _, s3⟩ := fullu [5] (by simp) 0 (by decide)
    have s1 : A0 13 [.own 0 0 1 (some 1), uL 0] [.cells 31 5 [iL 3, uL 5, sL (ByteArray.mk #[]), iL 0, nL]] (.bts (catM gs 0 1)) [.gone] := s0 (some 1)
    have s2 : A0 32 [.bts (catM gs 0 1), iL 1, iL 100, iL 1] [] (.tup [.ro 1 1 (fun i => [uL 5]), bL true]) [] := (s3 100 1 (by decide) (by decide)).le (leAll_refl _) (Le_tup ⟨Le_ro fun i hi => by rw [show i = 0 by simp at hi; omega]; rfl, Le.refl _, trivial⟩) rfl
    have b := buffersC a c
    by_cases hb : 18 ≤ a ∧ a ≤ 65536 ∧ 1 ≤ c ∧ c ≤ 65536
    · obtain ⟨z, rfl⟩ := Int.eq_ofNat_of_zero_le (show 0 ≤ a by omega)
      obtain ⟨g, rfl⟩ := Int.eq_ofNat_of_zero_le (show 0 ≤ c by omega)
      rw [decide_eq_true hb] at b
      by_cases h2 : l.length ≤ 100
      · have d1 : decide ((l.length : Int) > 100) = false := by simp; omega
        obtain ⟨ds, w0, w1, w2⟩ := fullu l hv st (by omega)
        have e := w2 z g (by omega) (by omega)
        have sm := sameu l (by omega)
        rcases Nat.eq_zero_or_pos l.length with h3 | h3
        · obtain rfl := List.eq_nil_of_length_eq_zero h3
          have lp : C0 84 (.loop (loopAt Tryd.f8 0)) (slu st z g [] 0 nL) [] (.exit 0) (outu st z g [] nL) [] := (LoopC.exit (gluy st z g [] 0 ⟨by simp, trivial⟩) (by simp)).code
          have w := w1 rfl
          refine lau4 st z g [] (catM gs 0 1) (catM ds 0 0) ?_
          simp only [AllP, leAll]
          repeat' (first | exact trivial | exact rfl | exact s1 | exact s2 | exact b | exact lp | exact w | exact e | exact sm | exact d0 | exact d1 | exact Le.refl _ | exact RowLe.refl _ | omega | with_reducible apply And.intro)
        · have lp := givenu st z g l (by omega) h3
          have w := w0 none
          refine lau5 st z g l (catM gs 0 1) (catM ds 0 l.length) l.length (cellsL 3 numu txtu l) ?_
          simp only [AllP, leAll, cellsL_ren]
          repeat' (first | exact trivial | exact rfl | exact s1 | exact s2 | exact b | exact lp | exact w | exact e | exact sm | exact d0 | exact d1 | exact Le.refl _ | exact RowLe.refl _ | omega | with_reducible apply And.intro)
      · have d1 : decide ((l.length : Int) > 100) = true := by simp; omega
        refine lau3 st z g l (catM gs 0 1) ?_
        simp only [AllP, leAll]
        repeat' (first | exact trivial | exact rfl | exact s1 | exact s2 | exact b | exact d0 | exact d1 | exact Le.refl _ | exact RowLe.refl _ | omega | with_reducible apply And.intro)
    · rw [decide_eq_false hb] at b
      refine lau2 st a c l (catM gs 0 1) ?_
      simp only [AllP, leAll]
      repeat' (first | exact trivial | exact rfl | exact s1 | exact s2 | exact b | exact d0 | exact Le.refl _ | exact RowLe.refl _ | omega | with_reducible apply And.intro)
end Go.Ax
