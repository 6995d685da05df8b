/-
  Laws of a Reader's texts over a stream, each by a contract.
-/
import Derived.Test.YtkbmfpkbegjhcaaDoorTrC
import Derived.Test.YtkbmfpkbegjhcaaDoorTrD
import Derived.Test.YtkbmfpkbegjhcaaDoorSnE
import Derived.Test.YtkbmfpkbegjhcaaDoorInL
set_option linter.unusedVariables false
set_option linter.unusedSimpArgs false
set_option maxRecDepth 100000
namespace Go.Ax
open Go.Proofs

theorem ba_len (t : ByteArray) : t.data.toList.length = t.size := Array.length_toList
theorem fit4 (n : Int) (hn : n < 4294967296) : fitB n 4 = true := by
  simp only [fitB, Bool.or_eq_true, decide_eq_true_eq]
  right
  show n < 256 ^ 4
  omega
def f3 (a b c : Int) : List (Int × Int) := [(a, 1), (b, 2), (c, 4)]
theorem head3 (n fx un a b c st : Int) (sh : Bool) (h0 : 0 ≤ n) (hn : n < 4294967296) :
    ∃ out st', HeadOut n fx un (f3 a b c) out ∧ A0 60 [.ptr 0 0, .lit (.int .i64 n), .lit (.int .i64 fx), .lit (.int .i64 un), .own 1 0 3 (some 3)]
      [FR st sh, .cells 103 2 [.lit (.int .i64 a), .lit (.int .i64 1), .lit (.int .i64 b), .lit (.int .i64 2), .lit (.int .i64 c), .lit (.int .i64 4)]] (.own 2 0 out.length none) [FR st' sh, .gone, .bytes 5 out] := by
  have hne : sizesOf n (f3 a b c) ≠ [] := List.ne_nil_of_mem (a := (c, 4)) (List.mem_filter.2 ⟨by simp [f3], fit4 n hn⟩)
  obtain ⟨out, st', ho, cp, hc⟩ := putHeadC n fx un st sh 3 _ (f3 a b c) h0 hn (by simp [f3]) (by simp [f3]) hne (sizes3 n a b c h0 hn)
  refine ⟨out, st', ho, ACalls.freezeArg 1 rfl rfl ?_⟩
  refine hc.le ⟨Le.refl _, Le.refl _, Le.refl _, Le.refl _, Le_ro fun i hi => ?_, trivial⟩ (Le_cap _ _ _ _) rfl
  rcases (show i = 0 ∨ i = 1 ∨ i = 2 by omega) with rfl | rfl | rfl <;> rfl
theorem HeadOut_len {n fx un : Int} {l : List (Int × Int)} {out : List UInt8} (hl : ∀ p ∈ l, p.2 = 1 ∨ p.2 = 2 ∨ p.2 = 4 ∨ p.2 = 8) (h : HeadOut n fx un l out) : 1 ≤ out.length ∧ out.length ≤ 9 := by
  rcases h with ⟨_, _, rfl⟩ | ⟨p, hp, rfl⟩
  · simp
  · exact ⟨by simp [headL], headL_len _ _ _ (hl p (List.mem_filter.1 hp).1)⟩

def TextOut (x : ByteArray) (y : List UInt8) : Prop := ∃ h, HeadOut x.size 160 32 (f3 217 218 219) h ∧ y = h ++ x.data.toList
theorem putTx (x : ByteArray) (hx : x.size ≤ 65536) (st : Int) :
    ∃ y st', TextOut x y ∧ 1 ≤ y.length ∧ y.length ≤ 70000 ∧ A0 27 [.agg [iL 6, uL 0, sL x, iL 0, nL], .ptr 0 0] [FR st false] (.own 1 0 y.length none) [FR st' false, .bytes 5 y] := by
  have lst : leAll [.agg [iL 6, uL 0, sL x, iL 0, nL], AV.ptr 0 0] [.agg (mcells 6 0 x 0 0 (fun _ => .nul)), .ptr 0 0] := ⟨Le_agg ⟨Le.refl _, Le.refl _, Le.refl _, Le.refl _, fun ρ hp O w v hv => by rw [VR_lit hv]; exact .dr .ronil, trivial⟩, Le.refl _, trivial⟩
  have tl := ba_len x
  obtain ⟨h, st', hh, hc⟩ := head3 x.size 160 32 217 218 219 st false (by omega) (by omega)
  have hlen := HeadOut_len (by simp [f3]) hh
  refine ⟨h ++ x.data.toList, st', ⟨h, hh, rfl⟩, by simp; omega, by simp only [List.length_append]; omega, ?_⟩
  have e := gpp6 0 x 0 0 (fun _ => .nul) st st' false h (by
    simp only [AllP]
    repeat' (first | exact trivial | exact rfl | exact hc | omega | with_reducible apply And.intro))
  refine (e.le lst (Le.refl _) rfl).cast rfl rfl ?_ ?_
  · simp
  · simp

/-! ### The sizes of a list of texts; two lists that are the same -/
theorem zfLoop (l : List ByteArray) (hl : l.length ≤ 2147483647) : ∀ (m i : Nat), l.length - i = m → i ≤ l.length →
    LoopC Tryd.prog noG 18 (loopAt Tryd.f11 0) [(8, (.ro 1 l.length (fun i => [sL (l.getD i .empty)]))), (9, iL l.length), (10, iL i)] [] (.exit 0) [] [] ∨ LoopC Tryd.prog noG 18 (loopAt Tryd.f11 0) [(8, (.ro 1 l.length (fun i => [sL (l.getD i .empty)]))), (9, iL l.length), (10, iL i)] [] .ret [(2, bL false)] []
  | 0, i, hm, hi => .inl (LoopC.exit (zfx l i ⟨by simp; omega, trivial⟩) (by simp))
  | m + 1, i, hm, hi => by
    have hlt : i < l.length := by omega
    by_cases hb : (2147483647 : Int) < (l.getD i .empty).size
    · exact .inr (LoopC.exit (zfr l i (by
        simp only [AllP, Int.toNat_natCast]
        exact ⟨decide_eq_true hb, by omega, by simp; omega, trivial⟩)) (by simp))
    · have e := zfl l i (by
        simp only [AllP, Int.toNat_natCast]
        exact ⟨decide_eq_false hb, by omega, by simp; omega, trivial⟩)
      rw [wrapS i (by omega)] at e
      rcases zfLoop l hl m (i + 1) (by omega) (by omega) with h | h
      · exact .inl (LoopC.step e h)
      · exact .inr (LoopC.step e h)
theorem zzFits (l : List ByteArray) : A0 11 [(.ro 1 l.length (fun i => [sL (l.getD i .empty)]))] [] (bL false) [] ∨ (l.length ≤ 2147483647 ∧ A0 11 [(.ro 1 l.length (fun i => [sL (l.getD i .empty)]))] [] (bL true) []) := by
  by_cases h1 : (2147483647 : Int) < l.length
  · exact .inl (zf0 l ⟨decide_eq_true h1, trivial⟩)
  · have d0 : decide ((l.length : Int) > 2147483647) = false := by simp; omega
    rcases zfLoop l (by omega) l.length 0 (by omega) (by omega) with h | h
    · refine .inr ⟨by omega, zf1 l ?_⟩
      have lp := h.code
      simp only [AllP]
      repeat' (first | exact trivial | exact rfl | exact lp | exact d0 | exact Le.refl _ | with_reducible apply And.intro)
    · refine .inl (zf2 l ?_)
      have lp := h.code
      simp only [AllP]
      repeat' (first | exact trivial | exact rfl | exact lp | exact d0 | exact Le.refl _ | with_reducible apply And.intro)
theorem sameLoops (l : List ByteArray) (hl : l.length ≤ 1000000) : ∀ (m i : Nat), l.length - i = m → i ≤ l.length → LoopC Tryd.prog noG 26 (loopAt Tryd.f15 0) [(0, (.ro 1 l.length (fun i => [sL (l.getD i .empty)]))), (1, (.ro 1 l.length (fun i => [sL (l.getD i .empty)]))), (12, iL l.length), (13, iL i)] [] (.exit 0) [] []
  | 0, i, hm, hi => LoopC.exit (sisx l i ⟨by simp; omega, trivial⟩) (by simp)
  | m + 1, i, hm, hi => by
    have e := sisl l i (by
      simp only [AllP]
      repeat' (first | exact trivial | omega | (simp; done) | (simp; omega) | with_reducible apply And.intro))
    rw [wrapS i (by omega)] at e
    exact LoopC.step e (sameLoops l hl m (i + 1) (by omega) (by omega))
theorem sames (l : List ByteArray) (hl : l.length ≤ 1000000) : A0 15 [(.ro 1 l.length (fun i => [sL (l.getD i .empty)])), (.ro 1 l.length (fun i => [sL (l.getD i .empty)]))] [] (bL true) [] :=
  sis l (by
    have lp := (sameLoops l hl l.length 0 (by omega) (by omega)).code
    simp only [AllP]
    repeat' (first | exact trivial | exact rfl | exact lp | exact Le.refl _ | (simp; done) | with_reducible apply And.intro))
def numt (x : ByteArray) : Int := 0
def txtt (x : ByteArray) : ByteArray := x
theorem GetsTO.takes {tx a : List UInt8} (h : GetsTO a tx) : GetsO 41 (.tup [sL (ByteArray.mk tx.toArray), nI]) a := fun T z g o r l p bf dat t S => by
  obtain ⟨o2, r2, l2, p2, bf2, S2, C⟩ := h T z g o r l p bf dat t S
  refine ⟨o2, r2, l2, p2, bf2, S2, t41O z g o r l p o2 r2 l2 p2 bf bf2 dat tx ?_⟩
  have C2 := trivial
  simp only [AllP, leAll]
  repeat' (first | exact trivial | exact rfl | exact C | exact C2 | exact Le.refl _ | exact RowLe.refl _ | with_reducible apply And.intro)
theorem GetsTN.takes {tx a : List UInt8} (h : GetsTN a tx) : GetsN 41 (.tup [sL (ByteArray.mk tx.toArray), nI]) a := fun T z g t h1 h2 h3 h4 => by
  obtain ⟨o2, r2, l2, p2, bf2, S2, C⟩ := h T z g t h1 h2 h3 h4
  refine ⟨o2, r2, l2, p2, bf2, S2, t41N z g 0 (a ++ t).length o2 r2 l2 p2 bf2 (a ++ t) tx ?_⟩
  have C2 := trivial
  simp only [AllP, leAll]
  repeat' (first | exact trivial | exact rfl | exact C | exact C2 | exact Le.refl _ | exact RowLe.refl _ | with_reducible apply And.intro)
theorem getss (x : ByteArray) (hx : x.size ≤ 65536) (y : List UInt8) (h : TextOut x y) : Gets 41 (.tup [sL x, nI]) y := by
  obtain ⟨h, hh, rfl⟩ := h
  have tl := ba_len x
  have q := readText x.data.toList h (by omega) (by rw [tl]; exact hh)
  have e : ByteArray.mk x.data.toList.toArray = x := by simp
  have q1 := q.1.takes
  have q2 := q.2.takes
  rw [e] at q1 q2
  exact ⟨q1, q2⟩

theorem takings (z g : Nat) (hz : 18 ≤ z ∧ z ≤ 65536) (hg1 : 1 ≤ g ∧ g ≤ 65536) (l : List ByteArray) (gs : Nat → List UInt8) (hl : l.length ≤ 65536) (hlen : (catM gs 0 l.length).length ≤ 1000000000000)
    (hg : ∀ i, (h : i < l.length) → Gets 41 (.tup [sL l[i], nI]) (gs i)) : A0 40 [.bts (catM gs 0 l.length), iL l.length, iL z, iL g, .lit (.func (.func 41) #[] #[])] [] (.tup [(.ro 1 l.length (fun i => [sL (l.getD i .empty)])), bL true]) [] := by
  obtain ⟨o, r, lb, p, bf, h⟩ := takes z g hz hg1 l gs hl hlen hg
  have c1 := readingC z g (catM gs 0 l.length) (by omega) hlen
  have e1 : (if (65536 : Int) < (l.length : Int) then (65536 : Int) else (l.length : Int)) = l.length := if_neg (by omega)
  have e2 : (if (0 : Int) > (z : Int) then (0 : Int) else (z : Int)) = z := if_neg (by omega)
  have e3 : (if (65536 : Int) < (z : Int) then (65536 : Int) else (z : Int)) = z := if_neg (by omega)
  rcases h with h | h
  · have q := tksc z g o r lb p bf (catM gs 0 l.length) l.length l.length (l.map fun x => sL x) (by
      simp only [AllP, leAll, e1, e2, e3]
      repeat' (first | exact trivial | exact rfl | exact h | exact c1 | exact Le.refl _ | exact RowLe.refl _ | omega | with_reducible apply And.intro))
    refine (((((q.cast rfl rfl rfl (by rw [renL_lit, renL_lit])).freezeRet 0 (r := .cells 9 1 (l.map fun x => sL x)) rfl (closed_lit _ l)).only [] rfl).le (leAll_refl _) ?_ rfl))
    refine Le_tup ⟨Le_ro fun i hi => ?_, Le.refl _, trivial⟩
    exact get_lit _ l .empty i hi
  · subst h
    have lp : C0 40 (loopAt Tryd.f40 0).loop (slTs 0 0 nL) (rowsRN z g 0 (catM gs 0 0).length (catM gs 0 0)) (.exit 0) [(13, nL)] (rowsRN z g 0 (catM gs 0 0).length (catM gs 0 0)) := (LoopC.exit (tksz z g 0 (catM gs 0 0).length (catM gs 0 0) 0 0 ⟨by simp, trivial⟩) (by simp)).code
    refine (tksa z g (catM gs 0 0) 0 ?_).le (leAll_refl _) ?_ rfl
    · simp only [AllP, leAll, e2, e3]
      repeat' (first | exact trivial | exact rfl | exact lp | exact c1 | exact Le.refl _ | exact RowLe.refl _ | omega | with_reducible apply And.intro)
    · exact Le_tup ⟨fun ρ hp O w v hv => by rw [VR_lit hv]; exact .dr .ronil, Le.refl _, trivial⟩

theorem streams (z g : Nat) (hz : 18 ≤ z ∧ z ≤ 65536) (hg1 : 1 ≤ g ∧ g ≤ 65536) (l : List ByteArray) (gs : Nat → List UInt8) (hl : l.length ≤ 65536) (hlen : (catM gs 0 l.length).length ≤ 1000000000000)
    (hg : ∀ i, (h : i < l.length) → Gets 41 (.tup [sL l[i], nI]) (gs i)) : A0 12 [.bts (catM gs 0 l.length), iL l.length, iL z, iL g] [] (.tup [(.ro 1 l.length (fun i => [sL (l.getD i .empty)])), bL true]) [] :=
  sgs (catM gs 0 l.length) l l.length z g (by
    have q := takings z g hz hg1 l gs hl hlen hg
    simp only [AllP, leAll]
    repeat' (first | exact trivial | exact rfl | exact q | exact Le.refl _ | with_reducible apply And.intro))

abbrev sls (st : Int) (z g : Nat) (l : List ByteArray) (i : Nat) (w : AV) : List (Nat × AV) := [(0, (.ro 1 l.length (fun i => [sL (l.getD i .empty)]))), (1, uL st), (2, iL z), (3, iL g), (12, bL true), (52, (.ro 1 l.length (fun i => [sL (l.getD i .empty)]))), (53, iL l.length), (54, iL i), (13, w)]
abbrev outs (st : Int) (z g : Nat) (l : List ByteArray) (w : AV) : List (Nat × AV) := [(0, (.ro 1 l.length (fun i => [sL (l.getD i .empty)]))), (1, uL st), (2, iL z), (3, iL g), (12, bL true), (13, w)]

theorem givenOs (st : Int) (z g : Nat) (l : List ByteArray) (hl : l.length ≤ 1000000) : ∀ (m i : Nat), l.length - i = m → i ≤ l.length →
    (LoopK Tryd.prog noG 0 88 (loopAt Tryd.f3 0) (sls st z g l i (.own 0 0 i none)) [.cells 31 5 (cellsL 6 numt txtt (l.take i))] (.exit 0) (outs st z g l (.own 0 0 l.length none)) [.cells 31 5 (cellsL 6 numt txtt l)] ∧ ∀ j, (h : j < l.length) → i ≤ j → l[j].size ≤ 65536) ∨
    ∃ H', LoopK Tryd.prog noG 0 88 (loopAt Tryd.f3 0) (sls st z g l i (.own 0 0 i none)) [.cells 31 5 (cellsL 6 numt txtt (l.take i))] .ret [(8, bL true)] H'
  | 0, i, hk, hi => by
    have he : i = l.length := by omega
    subst he
    refine .inl ⟨?_, fun j h1 h2 => by omega⟩
    have e := LoopK.exit (k := 0) (glsx st z g l l.length l.length (cellsL 6 numt txtt (l.take l.length)) ⟨by simp, trivial⟩) (by simp)
    rw [List.take_length] at e ⊢
    exact e.cast rfl rfl rfl (by rw [cellsL_ren])
  | m + 1, i, hk, hi => by
    have hlt : i < l.length := by omega
    have w := wrapS i (by omega)
    have hgd : l.getD i .empty = l[i] := by simp [hlt]
    have hd : decide ((i : Int) < l.length) = true := by simp; omega
    by_cases hb : (65536 : Int) < l[i].size
    · have e := glsq st z g l i i (cellsL 6 numt txtt (l.take i)) (by
        simp only [AllP, Int.toNat_natCast, hgd]
        exact ⟨decide_eq_true hb, by omega, hd, trivial⟩)
      exact .inr ⟨_, LoopK.exit (k := 0) e (by simp)⟩
    · have hs8 : decide ((l[i].size : Int) > 65536) = false := decide_eq_false hb
      have e := glso st z g l i i (cellsL 6 numt txtt (l.take i)) (by
        simp only [AllP, Int.toNat_natCast, hgd]
        repeat' (first | exact trivial | exact rfl | exact hd | exact hs8 | omega | with_reducible apply And.intro))
      have hlen : (cellsL 6 numt txtt (l.take i)).length = i * 5 := by rw [cellsL_len]; simp; omega
      have ht : List.take (i * 5) (cellsL 6 numt txtt (l.take i)) = cellsL 6 numt txtt (l.take i) := List.take_of_length_le (by omega)
      rw [w, Int.toNat_natCast, hgd, List.drop_zero, ht] at e
      have hs := cellsL_snoc 6 numt txtt l i hlt
      have hc : ∀ f, AV.renL f (cellsL 6 numt txtt (l.take i) ++ [iL 6, uL 0, sL l[i], iL 0, nL]) = cellsL 6 numt txtt (l.take (i + 1)) := fun f => by
        rw [renL_app, cellsL_ren, hs]; rfl
      have hrow : [Row.cells 31 5 (cellsL 6 numt txtt (l.take (i + 1)))] = outM (idxM [some 1] 0) (hL [Row.gone, Row.cells 31 5 (AV.renL (idxIn [0, 705] 0) (cellsL 6 numt txtt (l.take i) ++ [iL 6, uL 0, sL l[i], iL 0, nL]))]) [some 1] := by
        simp only [outM, hL, nth, Row.ren, Option.getD_some]
        rw [hc, cellsL_ren]
      rcases givenOs st z g l hl m (i + 1) (by omega) (by omega) with ⟨h, hq⟩ | ⟨H', h⟩
      · refine .inl ⟨LoopK.step [some 1] e rfl (h.cast rfl hrow rfl rfl), fun j h1 h2 => ?_⟩
        by_cases hj : j = i
        · subst hj; omega
        · exact hq j h1 (by omega)
      · exact .inr ⟨H', LoopK.step [some 1] e rfl (h.cast rfl hrow rfl rfl)⟩

theorem givens (st : Int) (z g : Nat) (l : List ByteArray) (hl : l.length ≤ 1000000) (h0 : 0 < l.length) :
    (C0 88 (.loop (loopAt Tryd.f3 0)) (sls st z g l 0 nL) [] (.exit 0) (outs st z g l (.own 0 0 l.length none)) [.cells 31 5 (cellsL 6 numt txtt l)] ∧ ∀ x ∈ l, x.size ≤ 65536) ∨
    C0 88 (.loop (loopAt Tryd.f3 0)) (sls st z g l 0 nL) [] .ret [(8, bL true)] [] := by
  have hlt : 0 < l.length := h0
  have w := wrapS 0 (by omega)
  have hgd : l.getD 0 .empty = l[0] := by simp [hlt]
  have hd : decide (((0 : Nat) : Int) < l.length) = true := by simp; omega
  by_cases hb : (65536 : Int) < l[0].size
  · have e := glsr st z g l 0 (by
      simp only [AllP, Int.toNat_natCast, hgd]
      exact ⟨decide_eq_true hb, by omega, hd, trivial⟩)
    exact .inr (LoopC.exit e (by simp)).code
  · have hs8 : decide ((l[0].size : Int) > 65536) = false := decide_eq_false hb
    have e := glsn st z g l 0 (by
      simp only [AllP, Int.toNat_natCast, hgd]
      repeat' (first | exact trivial | exact rfl | exact hd | exact hs8 | omega | with_reducible apply And.intro))
    rw [w, Int.toNat_natCast, hgd] at e
    have hs := cellsL_snoc 6 numt txtt l 0 hlt
    simp only [List.take_zero, Nat.zero_add] at hs
    have hrow : [Row.cells 31 5 (cellsL 6 numt txtt (l.take (0 + 1)))] = outM (idxM [some 0] 0) (hL [Row.cells 31 5 [iL 6, uL 0, sL l[0], iL 0, nL]]) [some 0] := by
      rw [Nat.zero_add, hs]; rfl
    rcases givenOs st z g l hl (l.length - 1) 1 rfl (by omega) with ⟨h, hq⟩ | ⟨H', h⟩
    · refine .inl ⟨?_, fun x hx => ?_⟩
      · have e4 := LoopK.code [some 0] (LoopK.step (k := 0) [some 0] e rfl (h.cast rfl hrow rfl rfl)) rfl rfl
        refine e4.cast rfl rfl rfl ?_
        simp only [outM, hL, nth, Row.ren, Option.getD_some]
        rw [cellsL_ren]
      · obtain ⟨j, hj, rfl⟩ := List.getElem_of_mem hx
        by_cases h1 : j = 0
        · subst h1; omega
        · exact hq j hj (by omega)
    · exact .inr ((LoopK.code [] (LoopK.step (k := 0) [some 0] e rfl (h.cast rfl hrow rfl rfl)) rfl rfl).cast rfl rfl rfl rfl)

theorem fulls (l : List ByteArray) (hv : ∀ x ∈ l, x.size ≤ 65536) (st : Int) (hl : l.length ≤ 65536) : ∃ gs : Nat → List UInt8,
    (∀ c, A0 13 [.own 0 0 l.length c, uL st] [.cells 31 5 (cellsL 6 numt txtt l)] (.bts (catM gs 0 l.length)) [.gone]) ∧ (l = [] → A0 13 [nL, uL st] [] (.bts (catM gs 0 l.length)) []) ∧
    ∀ z g : Nat, (18 ≤ z ∧ z ≤ 65536) → (1 ≤ g ∧ g ≤ 65536) → A0 12 [.bts (catM gs 0 l.length), iL l.length, iL z, iL g] [] (.tup [(.ro 1 l.length (fun i => [sL (l.getD i .empty)])), bL true]) [] := by
  obtain ⟨gs, hq, hw, he⟩ := writtenL 6 numt txtt l .empty st (by omega) (fun x y => TextOut x y) 70000 (by decide) (fun x hm st => putTx x (hv x hm) st)
  refine ⟨gs, hw, he, fun z g hz hg => ?_⟩
  have hlen := catM_len (g := gs) (B := 70000) l.length 0 (fun j h1 h2 => (hq j (by omega)).2.2)
  exact streams z g hz hg l gs hl (by omega) (fun i hi => getss l[i] (hv _ (List.getElem_mem _)) (gs i) (hq i hi).1)

theorem laws (l : List ByteArray) (st a c : Int) : A0 3 [(.ro 1 l.length (fun i => [sL (l.getD i .empty)])), uL st, iL a, iL c] [] (bL true) [] := by
  rcases zzFits l with zf | ⟨hl, zf⟩
  · refine las1 st a c l ?_
    simp only [AllP, leAll]
    repeat' (first | exact trivial | exact rfl | exact zf | exact Le.refl _ | with_reducible apply And.intro)
  · obtain ⟨gs, s0, _, s3⟩ := fulls [⟨#[97]⟩] (by simp; decide) 0 (by decide)
    have s1 : A0 13 [.own 0 0 1 (some 1), uL 0] [.cells 31 5 [iL 6, uL 0, sL ⟨#[97]⟩, iL 0, nL]] (.bts (catM gs 0 1)) [.gone] := s0 (some 1)
    have s2 : A0 12 [.bts (catM gs 0 1), iL 1, iL 100, iL 1] [] (.tup [.ro 1 1 (fun i => [sL ⟨#[97]⟩]), bL true]) [] := (s3 100 1 (by decide) (by decide)).le (leAll_refl _) (Le_tup ⟨Le_ro fun i hi => by rw [show i = 0 by simp at hi; omega]; rfl, Le.refl _, trivial⟩) rfl
    have b := buffersC a c
    by_cases hb : 18 ≤ a ∧ a ≤ 65536 ∧ 1 ≤ c ∧ c ≤ 65536
    · obtain ⟨z, rfl⟩ := Int.eq_ofNat_of_zero_le (show 0 ≤ a by omega)
      obtain ⟨g, rfl⟩ := Int.eq_ofNat_of_zero_le (show 0 ≤ c by omega)
      rw [decide_eq_true hb] at b
      by_cases h2 : l.length ≤ 100
      · have d1 : decide ((l.length : Int) > 100) = false := by simp; omega
        have sm := sames l (by omega)
        rcases Nat.eq_zero_or_pos l.length with h3 | h3
        · obtain rfl := List.eq_nil_of_length_eq_zero h3
          obtain ⟨ds, w0, w1, w2⟩ := fulls [] (by simp) st (by simp)
          have e := w2 z g (by omega) (by omega)
          have lp : C0 88 (.loop (loopAt Tryd.f3 0)) (sls st z g [] 0 nL) [] (.exit 0) (outs st z g [] nL) [] := (LoopC.exit (glsy st z g [] 0 ⟨by simp, trivial⟩) (by simp)).code
          have w := w1 rfl
          refine las4 st z g [] (catM gs 0 1) (catM ds 0 0) ?_
          simp only [AllP, leAll]
          repeat' (first | exact trivial | exact rfl | exact zf | exact s1 | exact s2 | exact b | exact lp | exact w | exact e | exact sm | exact d1 | exact Le.refl _ | exact RowLe.refl _ | omega | with_reducible apply And.intro)
        · rcases givens st z g l (by omega) h3 with ⟨lp, hv⟩ | lp
          · obtain ⟨ds, w0, w1, w2⟩ := fulls l hv st (by omega)
            have e := w2 z g (by omega) (by omega)
            have w := w0 none
            refine las5 st z g l (catM gs 0 1) (catM ds 0 l.length) l.length (cellsL 6 numt txtt l) ?_
            simp only [AllP, leAll, cellsL_ren]
            repeat' (first | exact trivial | exact rfl | exact zf | exact s1 | exact s2 | exact b | exact lp | exact w | exact e | exact sm | exact d1 | exact Le.refl _ | exact RowLe.refl _ | omega | with_reducible apply And.intro)
          · refine las6 st z g l (catM gs 0 1) ?_
            simp only [AllP, leAll]
            repeat' (first | exact trivial | exact rfl | exact zf | exact s1 | exact s2 | exact b | exact lp | exact d1 | exact Le.refl _ | exact RowLe.refl _ | omega | with_reducible apply And.intro)
      · have d1 : decide ((l.length : Int) > 100) = true := by simp; omega
        refine las3 st z g l (catM gs 0 1) ?_
        simp only [AllP, leAll]
        repeat' (first | exact trivial | exact rfl | exact zf | exact s1 | exact s2 | exact b | exact d1 | exact Le.refl _ | exact RowLe.refl _ | omega | with_reducible apply And.intro)
    · rw [decide_eq_false hb] at b
      refine las2 st a c l (catM gs 0 1) ?_
      simp only [AllP, leAll]
      repeat' (first | exact trivial | exact rfl | exact zf | exact s1 | exact s2 | exact b | exact Le.refl _ | exact RowLe.refl _ | omega | with_reducible apply And.intro)
theorem GetsTO.takem {tx a : List UInt8} (h : GetsTO a tx) : GetsO 63 (.tup [sL (ByteArray.mk tx.toArray), nI]) a := fun T z g o r l p bf dat t S => by
  obtain ⟨o2, r2, l2, p2, bf2, S2, C⟩ := h T z g o r l p bf dat t S
  have C2 := t64O z g o r l p o2 r2 l2 p2 bf bf2 dat tx (by
    have C2 := trivial
    simp only [AllP, leAll]
    repeat' (first | exact trivial | exact rfl | exact C | exact C2 | exact Le.refl _ | exact RowLe.refl _ | with_reducible apply And.intro))
  refine ⟨o2, r2, l2, p2, bf2, S2, t63O z g o r l p o2 r2 l2 p2 bf bf2 dat tx ?_⟩
  simp only [AllP, leAll]
  repeat' (first | exact trivial | exact rfl | exact C | exact C2 | exact Le.refl _ | exact RowLe.refl _ | with_reducible apply And.intro)
theorem GetsTN.takem {tx a : List UInt8} (h : GetsTN a tx) : GetsN 63 (.tup [sL (ByteArray.mk tx.toArray), nI]) a := fun T z g t h1 h2 h3 h4 => by
  obtain ⟨o2, r2, l2, p2, bf2, S2, C⟩ := h T z g t h1 h2 h3 h4
  have C2 := t64N z g 0 (a ++ t).length o2 r2 l2 p2 bf2 (a ++ t) tx (by
    have C2 := trivial
    simp only [AllP, leAll]
    repeat' (first | exact trivial | exact rfl | exact C | exact C2 | exact Le.refl _ | exact RowLe.refl _ | with_reducible apply And.intro))
  refine ⟨o2, r2, l2, p2, bf2, S2, t63N z g 0 (a ++ t).length o2 r2 l2 p2 bf2 (a ++ t) tx ?_⟩
  simp only [AllP, leAll]
  repeat' (first | exact trivial | exact rfl | exact C | exact C2 | exact Le.refl _ | exact RowLe.refl _ | with_reducible apply And.intro)
theorem getsm (x : ByteArray) (hx : x.size ≤ 65536) (y : List UInt8) (h : TextOut x y) : Gets 63 (.tup [sL x, nI]) y := by
  obtain ⟨h, hh, rfl⟩ := h
  have tl := ba_len x
  have q := readText x.data.toList h (by omega) (by rw [tl]; exact hh)
  have e : ByteArray.mk x.data.toList.toArray = x := by simp
  have q1 := q.1.takem
  have q2 := q.2.takem
  rw [e] at q1 q2
  exact ⟨q1, q2⟩

theorem takingm (z g : Nat) (hz : 18 ≤ z ∧ z ≤ 65536) (hg1 : 1 ≤ g ∧ g ≤ 65536) (l : List ByteArray) (gs : Nat → List UInt8) (hl : l.length ≤ 65536) (hlen : (catM gs 0 l.length).length ≤ 1000000000000)
    (hg : ∀ i, (h : i < l.length) → Gets 63 (.tup [sL l[i], nI]) (gs i)) : A0 40 [.bts (catM gs 0 l.length), iL l.length, iL z, iL g, .lit (.func (.func 63) #[] #[])] [] (.tup [(.ro 1 l.length (fun i => [sL (l.getD i .empty)])), bL true]) [] := by
  obtain ⟨o, r, lb, p, bf, h⟩ := takem z g hz hg1 l gs hl hlen hg
  have c1 := readingC z g (catM gs 0 l.length) (by omega) hlen
  have e1 : (if (65536 : Int) < (l.length : Int) then (65536 : Int) else (l.length : Int)) = l.length := if_neg (by omega)
  have e2 : (if (0 : Int) > (z : Int) then (0 : Int) else (z : Int)) = z := if_neg (by omega)
  have e3 : (if (65536 : Int) < (z : Int) then (65536 : Int) else (z : Int)) = z := if_neg (by omega)
  rcases h with h | h
  · have q := tkmc z g o r lb p bf (catM gs 0 l.length) l.length l.length (l.map fun x => sL x) (by
      simp only [AllP, leAll, e1, e2, e3]
      repeat' (first | exact trivial | exact rfl | exact h | exact c1 | exact Le.refl _ | exact RowLe.refl _ | omega | with_reducible apply And.intro))
    refine (((((q.cast rfl rfl rfl (by rw [renL_lit, renL_lit])).freezeRet 0 (r := .cells 9 1 (l.map fun x => sL x)) rfl (closed_lit _ l)).only [] rfl).le (leAll_refl _) ?_ rfl))
    refine Le_tup ⟨Le_ro fun i hi => ?_, Le.refl _, trivial⟩
    exact get_lit _ l .empty i hi
  · subst h
    have lp : C0 40 (loopAt Tryd.f40 0).loop (slTm 0 0 nL) (rowsRN z g 0 (catM gs 0 0).length (catM gs 0 0)) (.exit 0) [(13, nL)] (rowsRN z g 0 (catM gs 0 0).length (catM gs 0 0)) := (LoopC.exit (tkmz z g 0 (catM gs 0 0).length (catM gs 0 0) 0 0 ⟨by simp, trivial⟩) (by simp)).code
    refine (tkma z g (catM gs 0 0) 0 ?_).le (leAll_refl _) ?_ rfl
    · simp only [AllP, leAll, e2, e3]
      repeat' (first | exact trivial | exact rfl | exact lp | exact c1 | exact Le.refl _ | exact RowLe.refl _ | omega | with_reducible apply And.intro)
    · exact Le_tup ⟨fun ρ hp O w v hv => by rw [VR_lit hv]; exact .dr .ronil, Le.refl _, trivial⟩

theorem streamm (z g : Nat) (hz : 18 ≤ z ∧ z ≤ 65536) (hg1 : 1 ≤ g ∧ g ≤ 65536) (l : List ByteArray) (gs : Nat → List UInt8) (hl : l.length ≤ 65536) (hlen : (catM gs 0 l.length).length ≤ 1000000000000)
    (hg : ∀ i, (h : i < l.length) → Gets 63 (.tup [sL l[i], nI]) (gs i)) : A0 29 [.bts (catM gs 0 l.length), iL l.length, iL z, iL g] [] (.tup [(.ro 1 l.length (fun i => [sL (l.getD i .empty)])), bL true]) [] :=
  sgm (catM gs 0 l.length) l l.length z g (by
    have q := takingm z g hz hg1 l gs hl hlen hg
    simp only [AllP, leAll]
    repeat' (first | exact trivial | exact rfl | exact q | exact Le.refl _ | with_reducible apply And.intro))

abbrev slm (st : Int) (z g : Nat) (l : List ByteArray) (i : Nat) (w : AV) : List (Nat × AV) := [(0, (.ro 1 l.length (fun i => [sL (l.getD i .empty)]))), (1, uL st), (2, iL z), (3, iL g), (12, bL true), (52, (.ro 1 l.length (fun i => [sL (l.getD i .empty)]))), (53, iL l.length), (54, iL i), (13, w)]
abbrev outm (st : Int) (z g : Nat) (l : List ByteArray) (w : AV) : List (Nat × AV) := [(0, (.ro 1 l.length (fun i => [sL (l.getD i .empty)]))), (1, uL st), (2, iL z), (3, iL g), (12, bL true), (13, w)]

theorem givenOm (st : Int) (z g : Nat) (l : List ByteArray) (hl : l.length ≤ 1000000) : ∀ (m i : Nat), l.length - i = m → i ≤ l.length →
    (LoopK Tryd.prog noG 0 88 (loopAt Tryd.f6 0) (slm st z g l i (.own 0 0 i none)) [.cells 31 5 (cellsL 6 numt txtt (l.take i))] (.exit 0) (outm st z g l (.own 0 0 l.length none)) [.cells 31 5 (cellsL 6 numt txtt l)] ∧ ∀ j, (h : j < l.length) → i ≤ j → l[j].size ≤ 65536) ∨
    ∃ H', LoopK Tryd.prog noG 0 88 (loopAt Tryd.f6 0) (slm st z g l i (.own 0 0 i none)) [.cells 31 5 (cellsL 6 numt txtt (l.take i))] .ret [(8, bL true)] H'
  | 0, i, hk, hi => by
    have he : i = l.length := by omega
    subst he
    refine .inl ⟨?_, fun j h1 h2 => by omega⟩
    have e := LoopK.exit (k := 0) (glmx st z g l l.length l.length (cellsL 6 numt txtt (l.take l.length)) ⟨by simp, trivial⟩) (by simp)
    rw [List.take_length] at e ⊢
    exact e.cast rfl rfl rfl (by rw [cellsL_ren])
  | m + 1, i, hk, hi => by
    have hlt : i < l.length := by omega
    have w := wrapS i (by omega)
    have hgd : l.getD i .empty = l[i] := by simp [hlt]
    have hd : decide ((i : Int) < l.length) = true := by simp; omega
    by_cases hb : (65536 : Int) < l[i].size
    · have e := glmq st z g l i i (cellsL 6 numt txtt (l.take i)) (by
        simp only [AllP, Int.toNat_natCast, hgd]
        exact ⟨decide_eq_true hb, by omega, hd, trivial⟩)
      exact .inr ⟨_, LoopK.exit (k := 0) e (by simp)⟩
    · have hs8 : decide ((l[i].size : Int) > 65536) = false := decide_eq_false hb
      have e := glmo st z g l i i (cellsL 6 numt txtt (l.take i)) (by
        simp only [AllP, Int.toNat_natCast, hgd]
        repeat' (first | exact trivial | exact rfl | exact hd | exact hs8 | omega | with_reducible apply And.intro))
      have hlen : (cellsL 6 numt txtt (l.take i)).length = i * 5 := by rw [cellsL_len]; simp; omega
      have ht : List.take (i * 5) (cellsL 6 numt txtt (l.take i)) = cellsL 6 numt txtt (l.take i) := List.take_of_length_le (by omega)
      rw [w, Int.toNat_natCast, hgd, List.drop_zero, ht] at e
      have hs := cellsL_snoc 6 numt txtt l i hlt
      have hc : ∀ f, AV.renL f (cellsL 6 numt txtt (l.take i) ++ [iL 6, uL 0, sL l[i], iL 0, nL]) = cellsL 6 numt txtt (l.take (i + 1)) := fun f => by
        rw [renL_app, cellsL_ren, hs]; rfl
      have hrow : [Row.cells 31 5 (cellsL 6 numt txtt (l.take (i + 1)))] = outM (idxM [some 1] 0) (hL [Row.gone, Row.cells 31 5 (AV.renL (idxIn [0, 705] 0) (cellsL 6 numt txtt (l.take i) ++ [iL 6, uL 0, sL l[i], iL 0, nL]))]) [some 1] := by
        simp only [outM, hL, nth, Row.ren, Option.getD_some]
        rw [hc, cellsL_ren]
      rcases givenOm st z g l hl m (i + 1) (by omega) (by omega) with ⟨h, hq⟩ | ⟨H', h⟩
      · refine .inl ⟨LoopK.step [some 1] e rfl (h.cast rfl hrow rfl rfl), fun j h1 h2 => ?_⟩
        by_cases hj : j = i
        · subst hj; omega
        · exact hq j h1 (by omega)
      · exact .inr ⟨H', LoopK.step [some 1] e rfl (h.cast rfl hrow rfl rfl)⟩

theorem givenm (st : Int) (z g : Nat) (l : List ByteArray) (hl : l.length ≤ 1000000) (h0 : 0 < l.length) :
    (C0 88 (.loop (loopAt Tryd.f6 0)) (slm st z g l 0 nL) [] (.exit 0) (outm st z g l (.own 0 0 l.length none)) [.cells 31 5 (cellsL 6 numt txtt l)] ∧ ∀ x ∈ l, x.size ≤ 65536) ∨
    C0 88 (.loop (loopAt Tryd.f6 0)) (slm st z g l 0 nL) [] .ret [(8, bL true)] [] := by
  have hlt : 0 < l.length := h0
  have w := wrapS 0 (by omega)
  have hgd : l.getD 0 .empty = l[0] := by simp [hlt]
  have hd : decide (((0 : Nat) : Int) < l.length) = true := by simp; omega
  by_cases hb : (65536 : Int) < l[0].size
  · have e := glmr st z g l 0 (by
      simp only [AllP, Int.toNat_natCast, hgd]
      exact ⟨decide_eq_true hb, by omega, hd, trivial⟩)
    exact .inr (LoopC.exit e (by simp)).code
  · have hs8 : decide ((l[0].size : Int) > 65536) = false := decide_eq_false hb
    have e := glmn st z g l 0 (by
      simp only [AllP, Int.toNat_natCast, hgd]
      repeat' (first | exact trivial | exact rfl | exact hd | exact hs8 | omega | with_reducible apply And.intro))
    rw [w, Int.toNat_natCast, hgd] at e
    have hs := cellsL_snoc 6 numt txtt l 0 hlt
    simp only [List.take_zero, Nat.zero_add] at hs
    have hrow : [Row.cells 31 5 (cellsL 6 numt txtt (l.take (0 + 1)))] = outM (idxM [some 0] 0) (hL [Row.cells 31 5 [iL 6, uL 0, sL l[0], iL 0, nL]]) [some 0] := by
      rw [Nat.zero_add, hs]; rfl
    rcases givenOm st z g l hl (l.length - 1) 1 rfl (by omega) with ⟨h, hq⟩ | ⟨H', h⟩
    · refine .inl ⟨?_, fun x hx => ?_⟩
      · have e4 := LoopK.code [some 0] (LoopK.step (k := 0) [some 0] e rfl (h.cast rfl hrow rfl rfl)) rfl rfl
        refine e4.cast rfl rfl rfl ?_
        simp only [outM, hL, nth, Row.ren, Option.getD_some]
        rw [cellsL_ren]
      · obtain ⟨j, hj, rfl⟩ := List.getElem_of_mem hx
        by_cases h1 : j = 0
        · subst h1; omega
        · exact hq j hj (by omega)
    · exact .inr ((LoopK.code [] (LoopK.step (k := 0) [some 0] e rfl (h.cast rfl hrow rfl rfl)) rfl rfl).cast rfl rfl rfl rfl)

theorem fullm (l : List ByteArray) (hv : ∀ x ∈ l, x.size ≤ 65536) (st : Int) (hl : l.length ≤ 65536) : ∃ gs : Nat → List UInt8,
    (∀ c, A0 13 [.own 0 0 l.length c, uL st] [.cells 31 5 (cellsL 6 numt txtt l)] (.bts (catM gs 0 l.length)) [.gone]) ∧ (l = [] → A0 13 [nL, uL st] [] (.bts (catM gs 0 l.length)) []) ∧
    ∀ z g : Nat, (18 ≤ z ∧ z ≤ 65536) → (1 ≤ g ∧ g ≤ 65536) → A0 29 [.bts (catM gs 0 l.length), iL l.length, iL z, iL g] [] (.tup [(.ro 1 l.length (fun i => [sL (l.getD i .empty)])), bL true]) [] := by
  obtain ⟨gs, hq, hw, he⟩ := writtenL 6 numt txtt l .empty st (by omega) (fun x y => TextOut x y) 70000 (by decide) (fun x hm st => putTx x (hv x hm) st)
  refine ⟨gs, hw, he, fun z g hz hg => ?_⟩
  have hlen := catM_len (g := gs) (B := 70000) l.length 0 (fun j h1 h2 => (hq j (by omega)).2.2)
  exact streamm z g hz hg l gs hl (by omega) (fun i hi => getsm l[i] (hv _ (List.getElem_mem _)) (gs i) (hq i hi).1)

theorem lawm (l : List ByteArray) (st a c : Int) : A0 6 [(.ro 1 l.length (fun i => [sL (l.getD i .empty)])), uL st, iL a, iL c] [] (bL true) [] := by
  rcases zzFits l with zf | ⟨hl, zf⟩
  · refine lam1 st a c l ?_
    simp only [AllP, leAll]
    repeat' (first | exact trivial | exact rfl | exact zf | exact Le.refl _ | with_reducible apply And.intro)
  · obtain ⟨gs, s0, _, s3⟩ := fullm [⟨#[97]⟩] (by simp; decide) 0 (by decide)
    have s1 : A0 13 [.own 0 0 1 (some 1), uL 0] [.cells 31 5 [iL 6, uL 0, sL ⟨#[97]⟩, iL 0, nL]] (.bts (catM gs 0 1)) [.gone] := s0 (some 1)
    have s2 : A0 29 [.bts (catM gs 0 1), iL 1, iL 100, iL 1] [] (.tup [.ro 1 1 (fun i => [sL ⟨#[97]⟩]), bL true]) [] := (s3 100 1 (by decide) (by decide)).le (leAll_refl _) (Le_tup ⟨Le_ro fun i hi => by rw [show i = 0 by simp at hi; omega]; rfl, Le.refl _, trivial⟩) rfl
    have b := buffersC a c
    by_cases hb : 18 ≤ a ∧ a ≤ 65536 ∧ 1 ≤ c ∧ c ≤ 65536
    · obtain ⟨z, rfl⟩ := Int.eq_ofNat_of_zero_le (show 0 ≤ a by omega)
      obtain ⟨g, rfl⟩ := Int.eq_ofNat_of_zero_le (show 0 ≤ c by omega)
      rw [decide_eq_true hb] at b
      by_cases h2 : l.length ≤ 100
      · have d1 : decide ((l.length : Int) > 100) = false := by simp; omega
        have sm := sames l (by omega)
        rcases Nat.eq_zero_or_pos l.length with h3 | h3
        · obtain rfl := List.eq_nil_of_length_eq_zero h3
          obtain ⟨ds, w0, w1, w2⟩ := fullm [] (by simp) st (by simp)
          have e := w2 z g (by omega) (by omega)
          have lp : C0 88 (.loop (loopAt Tryd.f6 0)) (slm st z g [] 0 nL) [] (.exit 0) (outm st z g [] nL) [] := (LoopC.exit (glmy st z g [] 0 ⟨by simp, trivial⟩) (by simp)).code
          have w := w1 rfl
          refine lam4 st z g [] (catM gs 0 1) (catM ds 0 0) ?_
          simp only [AllP, leAll]
          repeat' (first | exact trivial | exact rfl | exact zf | exact s1 | exact s2 | exact b | exact lp | exact w | exact e | exact sm | exact d1 | exact Le.refl _ | exact RowLe.refl _ | omega | with_reducible apply And.intro)
        · rcases givenm st z g l (by omega) h3 with ⟨lp, hv⟩ | lp
          · obtain ⟨ds, w0, w1, w2⟩ := fullm l hv st (by omega)
            have e := w2 z g (by omega) (by omega)
            have w := w0 none
            refine lam5 st z g l (catM gs 0 1) (catM ds 0 l.length) l.length (cellsL 6 numt txtt l) ?_
            simp only [AllP, leAll, cellsL_ren]
            repeat' (first | exact trivial | exact rfl | exact zf | exact s1 | exact s2 | exact b | exact lp | exact w | exact e | exact sm | exact d1 | exact Le.refl _ | exact RowLe.refl _ | omega | with_reducible apply And.intro)
          · refine lam6 st z g l (catM gs 0 1) ?_
            simp only [AllP, leAll]
            repeat' (first | exact trivial | exact rfl | exact zf | exact s1 | exact s2 | exact b | exact lp | exact d1 | exact Le.refl _ | exact RowLe.refl _ | omega | with_reducible apply And.intro)
      · have d1 : decide ((l.length : Int) > 100) = true := by simp; omega
        refine lam3 st z g l (catM gs 0 1) ?_
        simp only [AllP, leAll]
        repeat' (first | exact trivial | exact rfl | exact zf | exact s1 | exact s2 | exact b | exact d1 | exact Le.refl _ | exact RowLe.refl _ | omega | with_reducible apply And.intro)
    · rw [decide_eq_false hb] at b
      refine lam2 st a c l (catM gs 0 1) ?_
      simp only [AllP, leAll]
      repeat' (first | exact trivial | exact rfl | exact zf | exact s1 | exact s2 | exact b | exact Le.refl _ | exact RowLe.refl _ | omega | with_reducible apply And.intro)
end Go.Ax
