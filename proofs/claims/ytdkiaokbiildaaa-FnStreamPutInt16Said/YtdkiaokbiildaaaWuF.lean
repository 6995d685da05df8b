/-
  laws.FnStreamPutUint16, laws.FnStreamPutInt16, each by a contract.
-/
import Derived.Test.YtdkiaokbiildaaaWuE
set_option linter.unusedVariables false
set_option linter.unusedSimpArgs false
set_option maxRecDepth 100000
namespace Go.Ax
open Go.Proofs

theorem buffersT (a : Int) (h1 : 18 ≤ a) (h2 : a ≤ 65536) : ACalls Try.prog noG 6 [.lit (.int .i64 a), .lit (.int .i64 1)] [] (.lit (.bool true)) [] :=
  (bufc a (by simp [AllP, h1, h2])).cast rfl rfl (by simp [h1, h2]) rfl
theorem buffersF (a : Int) (h : ¬ (18 ≤ a ∧ a ≤ 65536)) : ACalls Try.prog noG 6 [.lit (.int .i64 a), .lit (.int .i64 1)] [] (.lit (.bool false)) [] := by
  by_cases h1 : 18 ≤ a
  · have h2 : ¬ a ≤ 65536 := fun h2 => h ⟨h1, h2⟩
    exact (bufb a (by simp [AllP, h1]; omega)).cast rfl rfl (by simp [h1]) rfl
  · exact (bufa a (by simp [AllP]; omega)).cast rfl rfl (by simp) rfl

section
variable {α : Type} (k : Int) (num : α → Int)
def cellsP (l : List α) : List AV := l.flatMap fun x => cellP k (num x)
theorem cellsP_len (l : List α) : (cellsP k num l).length = l.length * 5 := by
  induction l with
  | nil => rfl
  | cons x l ih => simp only [cellsP, List.flatMap_cons, List.length_append] at ih ⊢; rw [ih]; simp [cellP]; omega
theorem cellsP_ren (f : Nat → Option Nat) (l : List α) : AV.renL f (cellsP k num l) = cellsP k num l := by
  induction l with
  | nil => rfl
  | cons x l ih => simp only [cellsP, List.flatMap_cons, renL_app] at ih ⊢; rw [ih]; rfl
theorem closedL_app : ∀ a b : List AV, AV.closedL (a ++ b) = (AV.closedL a && AV.closedL b)
  | [], b => by simp [AV.closedL]
  | x :: a, b => by simp [AV.closedL, closedL_app a b, Bool.and_assoc]
theorem cellsP_closed (l : List α) : AV.closedL (cellsP k num l) = true := by
  induction l with
  | nil => rfl
  | cons x l ih => simp only [cellsP, List.flatMap_cons, closedL_app] at ih ⊢; rw [ih]; rfl
theorem cellsP_get (l : List α) (i : Nat) (h : i < l.length) : ((cellsP k num l).drop (0 + i * 5)).take 5 = cellP k (num l[i]) := by
  induction l generalizing i with
  | nil => simp at h
  | cons x l ih =>
    cases i with
    | zero => simp [cellsP, cellP]
    | succ i =>
      have := ih i (by simpa using h)
      simp only [cellsP, List.flatMap_cons, Nat.zero_add] at this ⊢
      rw [show (i + 1) * 5 = (cellP k (num x)).length + i * 5 by simp [cellP]; omega, ← List.drop_drop, List.drop_left]
      exact this
theorem cellsP_snoc (l : List α) (i : Nat) (h : i < l.length) : cellsP k num (l.take (i + 1)) = cellsP k num (l.take i) ++ cellP k (num l[i]) := by
  simp only [cellsP, List.take_succ_eq_append_getElem h, List.flatMap_append, List.flatMap_cons, List.flatMap_nil, List.append_nil]
end

theorem ren_idx (f : Nat → Option Nat) (k n : Int) : AV.renL f (cellP k n) = cellP k n := rfl

def slWU (a : Int) (l : List Nat) (i : Nat) (w : AV) : List (Nat × AV) := [(0, .lit (.int .i64 a)), (1, roU l), (7, .lit (.bool true)), (36, roU l), (37, .lit (.int .i64 l.length)), (38, .lit (.int .i64 i)), (8, w)]
def outWU (a : Int) (l : List Nat) (w : AV) : List (Nat × AV) := [(0, .lit (.int .i64 a)), (1, roU l), (7, .lit (.bool true)), (8, w)]
def numU (x : Nat) : Int := (x : Int)

theorem wantOU (a : Int) (l : List Nat) (hl : l.length ≤ 1000000) (hv : ∀ x ∈ l, x < 65536) : ∀ (m i : Nat), l.length - i = m → i ≤ l.length →
    LoopK Try.prog noG 0 62 (loopAt Try.f3 0) (slWU a l i (.own 0 0 i none)) [.cells 31 5 (cellsP 3 numU (l.take i))] (.exit 0) (outWU a l (.own 0 0 l.length none)) [.cells 31 5 (cellsP 3 numU l)]
  | 0, i, hk, hi => by
    have he : i = l.length := by omega
    subst he
    have e := LoopK.exit (k := 0) (muxo a l l.length l.length (cellsP 3 numU (l.take l.length)) (by simp [AllP])) (by simp)
    rw [cellsP_ren] at e
    simpa [slWU, outWU, roU] using e
  | m + 1, i, hk, hi => by
    have hlt : i < l.length := by omega
    have w : IntKind.i64.wrap ((i : Int) + 1) = ((i + 1 : Nat) : Int) := by rw [wrap64 (by omega) (by omega)]; simp
    have hx := hv l[i] (List.getElem_mem _)
    have w2 : IntKind.u64.wrap ((l[i] : Nat) : Int) = numU l[i] := by simp only [numU]; rw [wrapU64]; omega
    have e := muwo a l i i (cellsP 3 numU (l.take i)) (by simp [AllP]; omega)
    have hlen : (cellsP 3 numU (l.take i)).length = i * 5 := by rw [cellsP_len]; simp; omega
    have ht : List.take (i * 5) (cellsP 3 numU (l.take i)) = cellsP 3 numU (l.take i) := List.take_of_length_le (by omega)
    rw [w, Int.toNat_natCast, getD_lt hlt, w2, List.drop_zero, ht] at e
    have hs := cellsP_snoc 3 numU l i hlt
    have hc : AV.renL (idxIn [0, 577] 0) (cellsP 3 numU (l.take i) ++ [.lit (.int .i64 3), .lit (.int .u64 (numU l[i])), .lit (.string (ByteArray.mk #[])), .lit (.int .i64 0), .lit (.slice none 0 0)]) = cellsP 3 numU (l.take (i + 1)) := by
      rw [renL_app, cellsP_ren, hs]; rfl
    refine LoopK.step [some 1] e rfl ?_
    refine (wantOU a l hl hv m (i + 1) (by omega) (by omega)).cast ?_ ?_ rfl rfl
    · rfl
    · rw [← hc]
      simp only [outM, hL, nth, Row.ren, Option.getD_some]
      rw [hc, cellsP_ren]

theorem wantU (a : Int) (l : List Nat) (hl : l.length ≤ 1000000) (hv : ∀ x ∈ l, x < 65536) (h0 : 0 < l.length) :
    CodeC Try.prog noG 62 (.loop (loopAt Try.f3 0)) (slWU a l 0 (.lit (.slice none 0 0))) [] (.exit 0) (outWU a l (.own 0 0 l.length none)) [.cells 31 5 (cellsP 3 numU l)] := by
  have i := 0
  have hlt : 0 < l.length := h0
  have hx := hv l[0] (List.getElem_mem _)
  have w : IntKind.i64.wrap (((0 : Nat) : Int) + 1) = ((0 + 1 : Nat) : Int) := by decide
  have w2 : IntKind.u64.wrap ((l[0] : Nat) : Int) = numU l[0] := by simp only [numU]; rw [wrapU64]; omega
  have e := muwn a l 0 (by simp [AllP]; omega)
  rw [w, Int.toNat_natCast, getD_lt hlt, w2] at e
  have e2 := wantOU a l hl hv (l.length - 1) 1 rfl (by omega)
  have hs := cellsP_snoc 3 numU l 0 hlt
  simp only [List.take_zero, Nat.zero_add] at hs
  have e3 := LoopK.step (k := 0) [some 0] e rfl (e2.cast rfl (by rw [hs]; rfl) rfl rfl)
  have e4 := LoopK.code [some 0] e3 rfl rfl
  refine e4.cast rfl rfl rfl ?_
  simp only [outM, hL, nth, Row.ren, Option.getD_some]
  rw [cellsP_ren]

theorem awakeU : ACalls Try.prog noG 5 [.lit (.int .i64 100), .own 0 0 1 (some 1)] [.cells 26 1 [.lit (.int .u16 5)]] (.tup [.bts [5], .lit (.bool true)]) [.gone] := by
  refine ACalls.freezeArg 0 (r := .cells 26 1 [.lit (.int .u16 5)]) rfl rfl ?_
  have h := streamU [5] (by simp) (by simp) 100 (by omega) (by omega)
  refine ((h.le (args' := [.lit (.int .i64 100), .ro 1 1 (fun i => (([AV.lit (.int .u16 5)]).drop (0 + i * 1)).take 1)]) ?_ (Le.refl _) rfl).frame [.gone] ?_ rfl).cast rfl rfl rfl rfl
  · exact ⟨Le.refl _, Le_ro fun i hi => by have : i = 0 := by omega
                                           subst this; rfl, trivial⟩
  · exact ⟨Le.refl _, Le.refl _, trivial⟩

theorem orderU (l : List Nat) (hl : l.length ≤ 1000000) (hv : ∀ x ∈ l, x < 65536) : ACalls Try.prog noG 7 [.bts (l.flatMap encU), .lit (.bool true), .own 0 0 l.length none] [.cells 31 5 (cellsP 3 numU l)] (.lit (.bool true)) [.gone] := by
  refine ACalls.freezeArg 0 (r := .cells 31 5 (cellsP 3 numU l)) rfl (cellsP_closed 3 numU l) ?_
  have h := inOrder (l := l) (num := numU) (enc := encU) (k := 3) hl (K2 := fun _ => 3) (fun x hx r => takeU x (hv x hx) r) (fun x hx => sameU _)
  refine ((h.le (args' := [.bts (l.flatMap encU), .lit (.bool true), .ro 5 l.length (fun i => ((cellsP 3 numU l).drop (0 + i * 5)).take 5)]) ?_ (Le.refl _) rfl).frame [.gone] ?_ rfl).cast rfl rfl rfl rfl
  · refine ⟨Le.refl _, Le.refl _, ?_, trivial⟩
    have hm : (l.map numU).length = l.length := by simp
    rw [roP, hm]
    refine Le_ro fun i hi => ?_
    rw [cellsP_get 3 numU l i hi]
    simp [hi]
  · exact ⟨Le.refl _, Le.refl _, Le.refl _, trivial⟩

theorem orderEU : ACalls Try.prog noG 7 [.bts [], .lit (.bool true), .lit (.slice none 0 0)] [] (.lit (.bool true)) [] := by
  have h := inOrder (l := ([] : List Nat)) (num := numU) (enc := encU) (k := 3) (K2 := fun _ => 0) (by simp) (by simp) (by simp)
  exact h.le ⟨Le.refl _, Le.refl _, fun ρ hp O w v hv => by rw [VR_lit hv]; exact .dr .ronil, trivial⟩ (Le.refl _) rfl

theorem fnStreamPutUint16 (a : Int) (l : List Nat) (hv : ∀ x ∈ l, x < 65536) : ACalls Try.prog noG 3 [.lit (.int .i64 a), roU l] [] (.lit (.bool true)) [] := by
  by_cases h1 : (2147483647 : Int) < l.length
  · exact mua a l (by simp [AllP, h1])
  · have d0 : Decidable.decide ((l.length : Int) > 2147483647) = false := by simp; omega
    have aw := awakeU
    by_cases hb : 18 ≤ a ∧ a ≤ 65536
    · obtain ⟨n, rfl⟩ := Int.eq_ofNat_of_zero_le (show 0 ≤ a by omega)
      have b := buffersT n hb.1 hb.2
      by_cases h2 : l.length ≤ 100
      · have s := streamU l (by omega) hv n (by omega) (by omega)
        have d1 : Decidable.decide ((l.length : Int) > 100) = false := by simp; omega
        rcases Nat.eq_zero_or_pos l.length with h3 | h3
        · obtain rfl := List.eq_nil_of_length_eq_zero h3
          have lp : CodeC Try.prog noG 62 (.loop (loopAt Try.f3 0)) (slWU n [] 0 (.lit (.slice none 0 0))) [] (.exit 0) (outWU n [] (.lit (.slice none 0 0))) [] := (LoopC.exit (muxn n [] 0 (by simp [AllP])) (by simp)).code
          refine (mud n [] [] ?_).cast rfl rfl (by simp) rfl
          simp only [AllP, leAll, d0, d1]
          simp
          exact ⟨orderEU, s, lp, b, aw⟩
        · have lp := wantU n l (by omega) hv h3
          have o := orderU l (by omega) hv
          refine (mue n l (l.flatMap encU) l.length (cellsP 3 numU l) ?_).cast rfl rfl (by simp) rfl
          simp only [AllP, leAll, d0, d1, cellsP_ren]
          simp
          exact ⟨o, s, lp, b, aw⟩
      · refine (muc n l ?_).cast rfl rfl (by simp) rfl
        simp only [AllP, leAll, d0]
        simp
        exact ⟨by omega, b, aw⟩
    · have b := buffersF a hb
      refine (mub a l ?_).cast rfl rfl (by simp) rfl
      simp only [AllP, leAll, d0]
      simp
      exact ⟨b, aw⟩

def slWI (a : Int) (l : List Int) (i : Nat) (w : AV) : List (Nat × AV) := [(0, .lit (.int .i64 a)), (1, roI l), (7, .lit (.bool true)), (36, roI l), (37, .lit (.int .i64 l.length)), (38, .lit (.int .i64 i)), (8, w)]
def outWI (a : Int) (l : List Int) (w : AV) : List (Nat × AV) := [(0, .lit (.int .i64 a)), (1, roI l), (7, .lit (.bool true)), (8, w)]
def numI (x : Int) : Int := x % 18446744073709551616

theorem wantOI (a : Int) (l : List Int) (hl : l.length ≤ 1000000) (hv : ∀ x ∈ l, -32768 ≤ x ∧ x ≤ 32767) : ∀ (m i : Nat), l.length - i = m → i ≤ l.length →
    LoopK Try.prog noG 0 63 (loopAt Try.f4 0) (slWI a l i (.own 0 0 i none)) [.cells 31 5 (cellsP 2 numI (l.take i))] (.exit 0) (outWI a l (.own 0 0 l.length none)) [.cells 31 5 (cellsP 2 numI l)]
  | 0, i, hk, hi => by
    have he : i = l.length := by omega
    subst he
    have e := LoopK.exit (k := 0) (mjxo a l l.length l.length (cellsP 2 numI (l.take l.length)) (by simp [AllP])) (by simp)
    rw [cellsP_ren] at e
    simpa [slWI, outWI, roI] using e
  | m + 1, i, hk, hi => by
    have hlt : i < l.length := by omega
    have w : IntKind.i64.wrap ((i : Int) + 1) = ((i + 1 : Nat) : Int) := by rw [wrap64 (by omega) (by omega)]; simp
    have hx := hv l[i] (List.getElem_mem _)
    have w2 : IntKind.u64.wrap (IntKind.i64.wrap (l[i] : Int)) = numI l[i] := by simp only [numI]; rw [wrap64 (by omega) (by omega), wrapU64]
    have e := mjwo a l i i (cellsP 2 numI (l.take i)) (by simp [AllP]; omega)
    have hlen : (cellsP 2 numI (l.take i)).length = i * 5 := by rw [cellsP_len]; simp; omega
    have ht : List.take (i * 5) (cellsP 2 numI (l.take i)) = cellsP 2 numI (l.take i) := List.take_of_length_le (by omega)
    rw [w, Int.toNat_natCast, getD_ltI hlt, w2, List.drop_zero, ht] at e
    have hs := cellsP_snoc 2 numI l i hlt
    have hc : AV.renL (idxIn [0, 641] 0) (cellsP 2 numI (l.take i) ++ [.lit (.int .i64 2), .lit (.int .u64 (numI l[i])), .lit (.string (ByteArray.mk #[])), .lit (.int .i64 0), .lit (.slice none 0 0)]) = cellsP 2 numI (l.take (i + 1)) := by
      rw [renL_app, cellsP_ren, hs]; rfl
    refine LoopK.step [some 1] e rfl ?_
    refine (wantOI a l hl hv m (i + 1) (by omega) (by omega)).cast ?_ ?_ rfl rfl
    · rfl
    · rw [← hc]
      simp only [outM, hL, nth, Row.ren, Option.getD_some]
      rw [hc, cellsP_ren]

theorem wantI (a : Int) (l : List Int) (hl : l.length ≤ 1000000) (hv : ∀ x ∈ l, -32768 ≤ x ∧ x ≤ 32767) (h0 : 0 < l.length) :
    CodeC Try.prog noG 63 (.loop (loopAt Try.f4 0)) (slWI a l 0 (.lit (.slice none 0 0))) [] (.exit 0) (outWI a l (.own 0 0 l.length none)) [.cells 31 5 (cellsP 2 numI l)] := by
  have i := 0
  have hlt : 0 < l.length := h0
  have hx := hv l[0] (List.getElem_mem _)
  have w : IntKind.i64.wrap (((0 : Nat) : Int) + 1) = ((0 + 1 : Nat) : Int) := by decide
  have w2 : IntKind.u64.wrap (IntKind.i64.wrap (l[0] : Int)) = numI l[0] := by simp only [numI]; rw [wrap64 (by omega) (by omega), wrapU64]
  have e := mjwn a l 0 (by simp [AllP]; omega)
  rw [w, Int.toNat_natCast, getD_ltI hlt, w2] at e
  have e2 := wantOI a l hl hv (l.length - 1) 1 rfl (by omega)
  have hs := cellsP_snoc 2 numI l 0 hlt
  simp only [List.take_zero, Nat.zero_add] at hs
  have e3 := LoopK.step (k := 0) [some 0] e rfl (e2.cast rfl (by rw [hs]; rfl) rfl rfl)
  have e4 := LoopK.code [some 0] e3 rfl rfl
  refine e4.cast rfl rfl rfl ?_
  simp only [outM, hL, nth, Row.ren, Option.getD_some]
  rw [cellsP_ren]

theorem awakeI : ACalls Try.prog noG 8 [.lit (.int .i64 100), .own 0 0 1 (some 1)] [.cells 36 1 [.lit (.int .i16 5)]] (.tup [.bts [5], .lit (.bool true)]) [.gone] := by
  refine ACalls.freezeArg 0 (r := .cells 36 1 [.lit (.int .i16 5)]) rfl rfl ?_
  have h := streamI [5] (by simp) (by simp) 100 (by omega) (by omega)
  refine ((h.le (args' := [.lit (.int .i64 100), .ro 1 1 (fun i => (([AV.lit (.int .i16 5)]).drop (0 + i * 1)).take 1)]) ?_ (Le.refl _) rfl).frame [.gone] ?_ rfl).cast rfl rfl rfl rfl
  · exact ⟨Le.refl _, Le_ro fun i hi => by have : i = 0 := by omega
                                           subst this; rfl, trivial⟩
  · exact ⟨Le.refl _, Le.refl _, trivial⟩

theorem orderI (l : List Int) (hl : l.length ≤ 1000000) (hv : ∀ x ∈ l, -32768 ≤ x ∧ x ≤ 32767) : ACalls Try.prog noG 7 [.bts (l.flatMap encI), .lit (.bool true), .own 0 0 l.length none] [.cells 31 5 (cellsP 2 numI l)] (.lit (.bool true)) [.gone] := by
  refine ACalls.freezeArg 0 (r := .cells 31 5 (cellsP 2 numI l)) rfl (cellsP_closed 2 numI l) ?_
  have h := inOrder (l := l) (num := numI) (enc := encI) (k := 2) hl (K2 := kindI) (fun x hx r => takeI x (hv x hx).1 (hv x hx).2 r) (fun x hx => sameI x (by have := hv x hx; omega) (by have := hv x hx; omega))
  refine ((h.le (args' := [.bts (l.flatMap encI), .lit (.bool true), .ro 5 l.length (fun i => ((cellsP 2 numI l).drop (0 + i * 5)).take 5)]) ?_ (Le.refl _) rfl).frame [.gone] ?_ rfl).cast rfl rfl rfl rfl
  · refine ⟨Le.refl _, Le.refl _, ?_, trivial⟩
    have hm : (l.map numI).length = l.length := by simp
    rw [roP, hm]
    refine Le_ro fun i hi => ?_
    rw [cellsP_get 2 numI l i hi]
    simp [hi]
  · exact ⟨Le.refl _, Le.refl _, Le.refl _, trivial⟩

theorem orderEI : ACalls Try.prog noG 7 [.bts [], .lit (.bool true), .lit (.slice none 0 0)] [] (.lit (.bool true)) [] := by
  have h := inOrder (l := ([] : List Int)) (num := numI) (enc := encI) (k := 2) (K2 := fun _ => 0) (by simp) (by simp) (by simp)
  exact h.le ⟨Le.refl _, Le.refl _, fun ρ hp O w v hv => by rw [VR_lit hv]; exact .dr .ronil, trivial⟩ (Le.refl _) rfl

theorem fnStreamPutInt16 (a : Int) (l : List Int) (hv : ∀ x ∈ l, -32768 ≤ x ∧ x ≤ 32767) : ACalls Try.prog noG 4 [.lit (.int .i64 a), roI l] [] (.lit (.bool true)) [] := by
  by_cases h1 : (2147483647 : Int) < l.length
  · exact mja a l (by simp [AllP, h1])
  · have d0 : Decidable.decide ((l.length : Int) > 2147483647) = false := by simp; omega
    have aw := awakeI
    by_cases hb : 18 ≤ a ∧ a ≤ 65536
    · obtain ⟨n, rfl⟩ := Int.eq_ofNat_of_zero_le (show 0 ≤ a by omega)
      have b := buffersT n hb.1 hb.2
      by_cases h2 : l.length ≤ 100
      · have s := streamI l (by omega) hv n (by omega) (by omega)
        have d1 : Decidable.decide ((l.length : Int) > 100) = false := by simp; omega
        rcases Nat.eq_zero_or_pos l.length with h3 | h3
        · obtain rfl := List.eq_nil_of_length_eq_zero h3
          have lp : CodeC Try.prog noG 63 (.loop (loopAt Try.f4 0)) (slWI n [] 0 (.lit (.slice none 0 0))) [] (.exit 0) (outWI n [] (.lit (.slice none 0 0))) [] := (LoopC.exit (mjxn n [] 0 (by simp [AllP])) (by simp)).code
          refine (mjd n [] [] ?_).cast rfl rfl (by simp) rfl
          simp only [AllP, leAll, d0, d1]
          simp
          exact ⟨orderEI, s, lp, b, aw⟩
        · have lp := wantI n l (by omega) hv h3
          have o := orderI l (by omega) hv
          refine (mje n l (l.flatMap encI) l.length (cellsP 2 numI l) ?_).cast rfl rfl (by simp) rfl
          simp only [AllP, leAll, d0, d1, cellsP_ren]
          simp
          exact ⟨o, s, lp, b, aw⟩
      · refine (mjc n l ?_).cast rfl rfl (by simp) rfl
        simp only [AllP, leAll, d0]
        simp
        exact ⟨by omega, b, aw⟩
    · have b := buffersF a hb
      refine (mjb a l ?_).cast rfl rfl (by simp) rfl
      simp only [AllP, leAll, d0]
      simp
      exact ⟨b, aw⟩
end Go.Ax
