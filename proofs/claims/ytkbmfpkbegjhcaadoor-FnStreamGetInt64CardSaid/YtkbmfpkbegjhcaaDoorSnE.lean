/-
  Laws of a Reader's numbers over a stream: the parts.
-/
import Derived.Test.YtkbmfpkbegjhcaaDoorSnD
import Derived.Test.YtkbmfpkbegjhcaaDoorSnQ
import Derived.Test.YtkbmfpkbegjhcaaDoorSm7
import Derived.Test.YtkbmfpkbegjhcaaDoorSgG
set_option linter.unusedVariables false
set_option linter.unusedSimpArgs false
set_option maxRecDepth 100000
namespace Go.Ax
open Go.Proofs

theorem copiedC (dat : List UInt8) (h : dat.length ≤ 1000000000000) : A0 44 [.bts dat] [] (.own 0 0 dat.length none) [.bytes 5 dat] :=
  (q44 dat ⟨by omega, trivial⟩).cast rfl rfl (by simp) (by simp)

theorem readingC (z g : Nat) (dat : List UInt8) (hz : 16 ≤ z) (h : dat.length ≤ 1000000000000) : A0 77 [.bts dat, iL z, iL g] [] (.ptr 0 0) (rowsRN z g 0 dat.length dat) := by
  have d : decide ((z : Int) < 16) = false := by simp; omega
  have c1 := copiedC dat h
  have c2 := q165 z g 0 dat.length dat ⟨d, trivial⟩
  have c3 := q129 z g 0 dat.length dat (by
    simp only [AllP, leAll]
    repeat' (first | exact trivial | exact rfl | exact c2 | exact Le.refl _ | exact RowLe.refl _ | omega | with_reducible apply And.intro))
  have c4 := q130 z g 0 dat.length dat ⟨by omega, trivial⟩
  have c5 := q131 z g 0 dat.length dat ⟨by omega, trivial⟩
  refine q77 z g dat ?_
  simp only [AllP, leAll]
  repeat' (first | exact trivial | exact rfl | exact c1 | exact c3 | exact c4 | exact c5 | exact Le.refl _ | exact RowLe.refl _ | omega | with_reducible apply And.intro)

theorem buffersC (a c : Int) : A0 14 [iL a, iL c] [] (bL (decide (18 ≤ a ∧ a ≤ 65536 ∧ 1 ≤ c ∧ c ≤ 65536))) [] :=
  (q14 a c trivial).cast rfl rfl (by
    congr 2
    by_cases h1 : 18 ≤ a <;> by_cases h2 : a ≤ 65536 <;> by_cases h3 : 1 ≤ c <;> by_cases h4 : c ≤ 65536 <;> simp [h1, h2, h3, h4]) rfl

theorem closed_lit {α : Type} (v : α → Value) (l : List α) : AV.closedL (l.map fun x => AV.lit (v x)) = true := by
  induction l with
  | nil => rfl
  | cons x l ih => simp only [List.map_cons, AV.closedL, AV.closed, ih, Bool.and_self]
theorem get_lit {α : Type} (v : α → Value) (l : List α) (d : α) (i : Nat) (h : i < l.length) : ((l.map fun x => AV.lit (v x)).drop (0 + i * 1)).take 1 = [AV.lit (v (l.getD i d))] := by
  rw [Nat.zero_add, Nat.mul_one, List.drop_eq_getElem_cons (by simpa using h)]
  simp [h]

theorem IntOut_len {u : Int} {sg : Bool} {out : List UInt8} (h : IntOut u sg out) : 1 ≤ out.length ∧ out.length ≤ 9 := by
  unfold IntOut at h
  have small : ∀ i s : Nat, (i, s) ∈ [(0, 1), (1, 2), (2, 4), (3, 8)] → s ≤ 8 := fun i s hm => by simp at hm; omega
  split at h
  · rcases h with ⟨_, rfl⟩ | ⟨i, s, hm, _, rfl⟩
    · simp
    · have := small i s hm; simp [bigL_len]; omega
  · rcases h with ⟨_, rfl⟩ | ⟨p, hp, rfl⟩ | ⟨i, s, hm, _, rfl⟩
    · simp
    · refine ⟨by simp [headL], headL_len _ _ _ (by have := (List.mem_filter.1 hp).1; simp at this; rcases this with rfl | rfl | rfl | rfl <;> simp)⟩
    · have := small i s hm; simp [bigL_len]; omega

theorem putU (k u : Int) (t : ByteArray) (hk : k = 2 ∨ k = 3) (h0 : 0 ≤ u) (h1 : u < 18446744073709551616) (st : Int) :
    ∃ y st', IntOut u (decide (k = 2)) y ∧ 1 ≤ y.length ∧ y.length ≤ 9 ∧ A0 27 [.agg [iL k, uL u, sL t, iL 0, nL], .ptr 0 0] [FR st false] (.own 1 0 y.length none) [FR st' false, .bytes 5 y] := by
  have lst : leAll [.agg [iL k, uL u, sL t, iL 0, nL], AV.ptr 0 0] [.agg (mcells k u t 0 0 (fun _ => .nul)), .ptr 0 0] := ⟨Le_agg ⟨Le.refl _, Le.refl _, Le.refl _, Le.refl _, fun ρ hp O w v hv => by rw [VR_lit hv]; exact .dr .ronil, trivial⟩, Le.refl _, trivial⟩
  rcases hk with rfl | rfl
  · obtain ⟨y, st', hy, hc⟩ := putIntC u st false true h0 h1
    exact ⟨y, st', hy, (IntOut_len hy).1, (IntOut_len hy).2, (gpp2 u t 0 0 (fun _ => .nul) st st' false y ⟨hc, trivial⟩).le lst (Le.refl _) rfl⟩
  · obtain ⟨y, st', hy, hc⟩ := putIntC u st false false h0 h1
    exact ⟨y, st', hy, (IntOut_len hy).1, (IntOut_len hy).2, (gpp3 u t 0 0 (fun _ => .nul) st st' false y ⟨hc, trivial⟩).le lst (Le.refl _) rfl⟩

section
variable {α : Type} (k : Int) (num : α → Int) (txt : α → ByteArray)
def cellL (x : α) : List AV := [iL k, uL (num x), sL (txt x), iL 0, nL]
def cellsL (l : List α) : List AV := l.flatMap (cellL k num txt)
theorem cellsL_len (l : List α) : (cellsL k num txt l).length = l.length * 5 := by
  induction l with
  | nil => rfl
  | cons x l ih => simp only [cellsL, List.flatMap_cons, List.length_append] at ih ⊢; rw [ih]; simp [cellL]; omega
theorem cellsL_ren (f : Nat → Option Nat) (l : List α) : AV.renL f (cellsL k num txt l) = cellsL k num txt l := by
  induction l with
  | nil => rfl
  | cons x l ih => simp only [cellsL, List.flatMap_cons, renL_app] at ih ⊢; rw [ih]; rfl
theorem closedL_app : ∀ a b : List AV, AV.closedL (a ++ b) = (AV.closedL a && AV.closedL b)
  | [], b => by simp [AV.closedL]
  | x :: a, b => by simp [AV.closedL, closedL_app a b, Bool.and_assoc]
theorem cellsL_closed (l : List α) : AV.closedL (cellsL k num txt l) = true := by
  induction l with
  | nil => rfl
  | cons x l ih => simp only [cellsL, List.flatMap_cons, closedL_app] at ih ⊢; rw [ih]; rfl
theorem cellsL_get (l : List α) (d : α) (i : Nat) (h : i < l.length) : ((cellsL k num txt l).drop (0 + i * 5)).take 5 = cellL k num txt (l.getD i d) := by
  induction l generalizing i with
  | nil => simp at h
  | cons x l ih =>
    cases i with
    | zero => simp [cellsL, cellL]
    | succ i =>
      have := ih i (by simpa using h)
      simp only [cellsL, List.flatMap_cons, Nat.zero_add] at this ⊢
      rw [show (i + 1) * 5 = (cellL k num txt x).length + i * 5 by simp [cellL]; omega, ← List.drop_drop, List.drop_left]
      exact this
theorem cellsL_snoc (l : List α) (i : Nat) (h : i < l.length) : cellsL k num txt (l.take (i + 1)) = cellsL k num txt (l.take i) ++ cellL k num txt l[i] := by
  simp only [cellsL, List.take_succ_eq_append_getElem h, List.flatMap_append, List.flatMap_cons, List.flatMap_nil, List.append_nil]

/-- laws.allWritten over a list of values that the call owns. -/
theorem writtenL (l : List α) (d : α) (st : Int) (hl : l.length ≤ 1000000) (Q : α → List UInt8 → Prop) (B : Nat) (hB : B ≤ 100000)
    (ih : ∀ x ∈ l, ∀ st : Int, ∃ y st', Q x y ∧ 1 ≤ y.length ∧ y.length ≤ B ∧ A0 27 [.agg (cellL k num txt x), .ptr 0 0] [FR st false] (.own 1 0 y.length none) [FR st' false, .bytes 5 y]) :
    ∃ g : Nat → List UInt8, (∀ j, (h : j < l.length) → Q l[j] (g j) ∧ 1 ≤ (g j).length ∧ (g j).length ≤ B) ∧
      (∀ c, A0 13 [.own 0 0 l.length c, uL st] [.cells 31 5 (cellsL k num txt l)] (.bts (catM g 0 l.length)) [.gone]) ∧ (l = [] → A0 13 [nL, uL st] [] (.bts (catM g 0 l.length)) []) := by
  obtain ⟨g, h1, h2⟩ := writtenC k (fun i => num (l.getD i d)) (fun i => txt (l.getD i d)) l.length hl (fun i y => Q (l.getD i d) y) B hB st (fun i hi st => by
    have e : l.getD i d = l[i] := by simp [hi]
    rw [e]
    have := ih l[i] (List.getElem_mem _) st
    unfold lc
    simp only [e]
    exact this)
  refine ⟨g, fun j hj => ?_, fun c => ?_, fun he => ?_⟩
  · have := h1 j hj
    have e : l.getD j d = l[j] := by simp [hj]
    rw [e] at this
    exact this
  · refine ACalls.freezeArg 0 (r := .cells 31 5 (cellsL k num txt l)) rfl (cellsL_closed k num txt l) ?_
    refine ((h2.le (args' := [.ro 5 l.length (fun i => ((cellsL k num txt l).drop (0 + i * 5)).take 5), uL st]) ?_ (Le.refl _) rfl).frame [.gone] ?_ rfl).cast rfl rfl rfl rfl
    · refine ⟨Le_ro fun i hi => ?_, Le.refl _, trivial⟩
      rw [cellsL_get k num txt l d i hi]
      rfl
    · exact ⟨Le.refl _, Le.refl _, trivial⟩
  · subst he
    exact h2.le ⟨fun ρ hp O w v hv => by rw [VR_lit hv]; exact .dr .ronil, Le.refl _, trivial⟩ (Le.refl _) rfl
end

/-! ### b -/
abbrev slb (st : Int) (z g : Nat) (l : List UInt8) (i : Nat) (w : AV) : List (Nat × AV) := [(0, .bts l), (1, uL st), (2, iL z), (3, iL g), (12, bL true), (53, .bts l), (54, iL l.length), (55, iL i), (13, w)]
abbrev outb (st : Int) (z g : Nat) (l : List UInt8) (w : AV) : List (Nat × AV) := [(0, .bts l), (1, uL st), (2, iL z), (3, iL g), (12, bL true), (13, w)]
def numb (x : UInt8) : Int := ((x.toNat : Nat) : Int)
def txtb (x : UInt8) : ByteArray := .empty

/-! ### u -/
abbrev slu (st : Int) (z g : Nat) (l : List Int) (i : Nat) (w : AV) : List (Nat × AV) := [(0, .ro 1 l.length (fun i => [uL (l.getD i 0)])), (1, uL st), (2, iL z), (3, iL g), (12, bL true), (52, .ro 1 l.length (fun i => [uL (l.getD i 0)])), (53, iL l.length), (54, iL i), (13, w)]
abbrev outu (st : Int) (z g : Nat) (l : List Int) (w : AV) : List (Nat × AV) := [(0, .ro 1 l.length (fun i => [uL (l.getD i 0)])), (1, uL st), (2, iL z), (3, iL g), (12, bL true), (13, w)]
def numu (x : Int) : Int := x
def txtu (x : Int) : ByteArray := .empty

/-! ### i -/
theorem takingi (z g : Nat) (hz : 18 ≤ z ∧ z ≤ 65536) (hg1 : 1 ≤ g ∧ g ≤ 65536) (l : List Int) (gs : Nat → List UInt8) (hl : l.length ≤ 65536) (hlen : (catM gs 0 l.length).length ≤ 1000000000000)
    (hg : ∀ i, (h : i < l.length) → Gets 66 (.tup [iL l[i], nI]) (gs i)) : A0 65 [.bts (catM gs 0 l.length), iL l.length, iL z, iL g, .lit (.func (.func 66) #[] #[])] [] (.tup [.ro 1 l.length (fun i => [iL (l.getD i 0)]), bL true]) [] := by
  obtain ⟨o, r, lb, p, bf, h⟩ := takei z g hz hg1 l gs hl hlen hg
  have c1 := readingC z g (catM gs 0 l.length) (by omega) hlen
  have e1 : (if (65536 : Int) < (l.length : Int) then (65536 : Int) else (l.length : Int)) = l.length := if_neg (by omega)
  have e2 : (if (0 : Int) > (z : Int) then (0 : Int) else (z : Int)) = z := if_neg (by omega)
  have e3 : (if (65536 : Int) < (z : Int) then (65536 : Int) else (z : Int)) = z := if_neg (by omega)
  rcases h with h | h
  · have q := tkic z g o r lb p bf (catM gs 0 l.length) l.length l.length (l.map fun x => iL x) (by
      simp only [AllP, leAll, e1, e2, e3]
      repeat' (first | exact trivial | exact rfl | exact h | exact c1 | exact Le.refl _ | exact RowLe.refl _ | omega | with_reducible apply And.intro))
    refine (((((q.cast rfl rfl rfl (by rw [renL_lit, renL_lit])).freezeRet 0 (r := .cells 2 1 (l.map fun x => iL x)) rfl (closed_lit _ l)).only [] rfl).le (leAll_refl _) ?_ rfl))
    refine Le_tup ⟨Le_ro fun i hi => ?_, Le.refl _, trivial⟩
    exact get_lit _ l 0 i hi
  · subst h
    have lp : C0 40 (loopAt Tryd.f65 0).loop (slTi 0 0 nL) (rowsRN z g 0 (catM gs 0 0).length (catM gs 0 0)) (.exit 0) [(13, nL)] (rowsRN z g 0 (catM gs 0 0).length (catM gs 0 0)) := (LoopC.exit (tkiz z g 0 (catM gs 0 0).length (catM gs 0 0) 0 0 ⟨by simp, trivial⟩) (by simp)).code
    refine (tkia z g (catM gs 0 0) 0 ?_).le (leAll_refl _) ?_ rfl
    · simp only [AllP, leAll, e2, e3]
      repeat' (first | exact trivial | exact rfl | exact lp | exact c1 | exact Le.refl _ | exact RowLe.refl _ | omega | with_reducible apply And.intro)
    · exact Le_tup ⟨fun ρ hp O w v hv => by rw [VR_lit hv]; exact .dr .ronil, Le.refl _, trivial⟩

theorem streami (z g : Nat) (hz : 18 ≤ z ∧ z ≤ 65536) (hg1 : 1 ≤ g ∧ g ≤ 65536) (l : List Int) (gs : Nat → List UInt8) (hl : l.length ≤ 65536) (hlen : (catM gs 0 l.length).length ≤ 1000000000000)
    (hg : ∀ i, (h : i < l.length) → Gets 66 (.tup [iL l[i], nI]) (gs i)) : A0 30 [.bts (catM gs 0 l.length), iL l.length, iL z, iL g] [] (.tup [.ro 1 l.length (fun i => [iL (l.getD i 0)]), bL true]) [] :=
  sgi (catM gs 0 l.length) l l.length z g (by
    have q := takingi z g hz hg1 l gs hl hlen hg
    simp only [AllP, leAll]
    repeat' (first | exact trivial | exact rfl | exact q | exact Le.refl _ | with_reducible apply And.intro))

theorem sameLoopi (l : List Int) (hl : l.length ≤ 1000000) : ∀ (m i : Nat), l.length - i = m → i ≤ l.length → LoopC Tryd.prog noG 26 (loopAt Tryd.f31 0) [(0, .ro 1 l.length (fun i => [iL (l.getD i 0)])), (1, .ro 1 l.length (fun i => [iL (l.getD i 0)])), (12, iL l.length), (13, iL i)] [] (.exit 0) [] []
  | 0, i, hm, hi => LoopC.exit (siix l i ⟨by simp; omega, trivial⟩) (by simp)
  | m + 1, i, hm, hi => by
    have e := siil l i ⟨by simp, by omega, by omega, by simp; omega, trivial⟩
    rw [wrapS i (by omega)] at e
    exact LoopC.step e (sameLoopi l hl m (i + 1) (by omega) (by omega))
theorem samei (l : List Int) (hl : l.length ≤ 1000000) : A0 31 [.ro 1 l.length (fun i => [iL (l.getD i 0)]), .ro 1 l.length (fun i => [iL (l.getD i 0)])] [] (bL true) [] :=
  sii l (by
    have lp := (sameLoopi l hl l.length 0 (by omega) (by omega)).code
    simp only [AllP]
    repeat' (first | exact trivial | exact rfl | exact lp | exact Le.refl _ | (simp; done) | with_reducible apply And.intro))

abbrev sli (st : Int) (z g : Nat) (l : List Int) (i : Nat) (w : AV) : List (Nat × AV) := [(0, .ro 1 l.length (fun i => [iL (l.getD i 0)])), (1, uL st), (2, iL z), (3, iL g), (12, bL true), (53, .ro 1 l.length (fun i => [iL (l.getD i 0)])), (54, iL l.length), (55, iL i), (13, w)]
abbrev outi (st : Int) (z g : Nat) (l : List Int) (w : AV) : List (Nat × AV) := [(0, .ro 1 l.length (fun i => [iL (l.getD i 0)])), (1, uL st), (2, iL z), (3, iL g), (12, bL true), (13, w)]
def numi (x : Int) : Int := IntKind.u64.wrap x
def txti (x : Int) : ByteArray := .empty

theorem givenOi (st : Int) (z g : Nat) (l : List Int) (hl : l.length ≤ 1000000) : ∀ (m i : Nat), l.length - i = m → i ≤ l.length →
    LoopK Tryd.prog noG 0 86 (loopAt Tryd.f7 0) (sli st z g l i (.own 0 0 i none)) [.cells 31 5 (cellsL 2 numi txti (l.take i))] (.exit 0) (outi st z g l (.own 0 0 l.length none)) [.cells 31 5 (cellsL 2 numi txti l)]
  | 0, i, hk, hi => by
    have he : i = l.length := by omega
    subst he
    have e := LoopK.exit (k := 0) (glix st z g l l.length l.length (cellsL 2 numi txti (l.take l.length)) ⟨by simp, trivial⟩) (by simp)
    rw [List.take_length] at e ⊢
    exact e.cast rfl rfl rfl (by rw [cellsL_ren])
  | m + 1, i, hk, hi => by
    have hlt : i < l.length := by omega
    have w := wrapS i (by omega)
    skip
    have e := glio st z g l i i (cellsL 2 numi txti (l.take i)) (by
      simp only [AllP]
      repeat' (first | exact trivial | exact rfl | omega | (simp; omega) | with_reducible apply And.intro))
    have hlen : (cellsL 2 numi txti (l.take i)).length = i * 5 := by rw [cellsL_len]; simp; omega
    have ht : List.take (i * 5) (cellsL 2 numi txti (l.take i)) = cellsL 2 numi txti (l.take i) := List.take_of_length_le (by omega)
    have hgd : l.getD i 0 = l[i] := by simp [hlt]
    rw [w, Int.toNat_natCast, hgd, List.drop_zero, ht] at e
    have hs := cellsL_snoc 2 numi txti l i hlt
    have hc : ∀ f, AV.renL f (cellsL 2 numi txti (l.take i) ++ [iL 2, uL (IntKind.u64.wrap l[i]), sL (ByteArray.mk #[]), iL 0, nL]) = cellsL 2 numi txti (l.take (i + 1)) := fun f => by
      rw [renL_app, cellsL_ren, hs]; rfl
    refine LoopK.step [some 1] e rfl ?_
    refine (givenOi st z g l hl m (i + 1) (by omega) (by omega)).cast ?_ ?_ rfl rfl
    · rfl
    · simp only [outM, hL, nth, Row.ren, Option.getD_some]
      rw [hc, cellsL_ren]

theorem giveni (st : Int) (z g : Nat) (l : List Int) (hl : l.length ≤ 1000000) (h0 : 0 < l.length) :
    C0 86 (.loop (loopAt Tryd.f7 0)) (sli st z g l 0 nL) [] (.exit 0) (outi st z g l (.own 0 0 l.length none)) [.cells 31 5 (cellsL 2 numi txti l)] := by
  have hlt : 0 < l.length := h0
  have w := wrapS 0 (by omega)
  skip
  have e := glin st z g l 0 (by
      simp only [AllP]
      repeat' (first | exact trivial | exact rfl | omega | (simp; omega) | with_reducible apply And.intro))
  have hgd : l.getD 0 0 = l[0] := by simp [hlt]
  rw [w, Int.toNat_natCast, hgd] at e
  have e2 := givenOi st z g l hl (l.length - 1) 1 rfl (by omega)
  have hs := cellsL_snoc 2 numi txti l 0 hlt
  simp only [List.take_zero, Nat.zero_add] at hs
  have e3 := LoopK.step (k := 0) [some 0] e rfl (e2.cast rfl (by rw [hs]; rfl) rfl rfl)
  have e4 := LoopK.code [some 0] e3 rfl rfl
  refine e4.cast rfl rfl rfl ?_
  simp only [outM, hL, nth, Row.ren, Option.getD_some]
  rw [cellsL_ren]
end Go.Ax
