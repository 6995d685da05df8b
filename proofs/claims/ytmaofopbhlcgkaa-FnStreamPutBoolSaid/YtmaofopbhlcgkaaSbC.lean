/-
  The Go functions that laws.FnStreamPutBool reaches, each by a contract.
-/
import Derived.Test.YtmaofopbhlcgkaaStF
import Derived.Test.YtmaofopbhlcgkaaSbB
set_option linter.unusedVariables false
set_option linter.unusedSimpArgs false
set_option maxRecDepth 100000
namespace Go.Ax
open Go.Proofs

theorem renL_app (f : Nat → Option Nat) (a b : List AV) : AV.renL f (a ++ b) = AV.renL f a ++ AV.renL f b := by
  simp [AV.renL_map]

def encBo (b : Bool) : List UInt8 := [codeB b]
theorem encBo_len (b : Bool) : (encBo b).length ≤ 5 := by simp [encBo]

def elBo (x : Bool) : AV := .lit (.bool x)
def roBo (l : List Bool) : AV := .ro 1 l.length (fun i => [.lit (.bool (l.getD i false))])
def slBo (l : List Bool) (i : Nat) : List (Nat × AV) :=
  [(2, .lit (.func (.func 42) #[] #[])), (8, .ptr 1 0), (9, .ptr 0 0), (17, roBo l), (18, .lit (.int .i64 l.length)), (19, .lit (.int .i64 i))]

theorem getD_ltBo {l : List Bool} {i : Nat} (h : i < l.length) : l.getD i false = l[i] := by simp [h]

theorem bodyBo_oo (l : List Bool) (hl : l.length ≤ 1000000) (i : Nat) (h : i < l.length) (N n : Nat) (buf out : List UInt8) (n2 : Nat) (buf2 out2 : List UInt8) (hc : ACalls Try.prog noG 42 [.ptr 0 0, elBo l[i]] (rO N n buf out) nilE (rM N n2 buf2 out2)) :
    CodeC Try.prog noG 34 (loopAt Try.f41 0) (slBo l i) (rO N n buf out) .normal (slBo l (i + 1)) (rM N n2 buf2 out2) := by
  have w : IntKind.i64.wrap ((i : Int) + 1) = ((i + 1 : Nat) : Int) := by rw [wrap64 (by omega) (by omega)]; simp
  have e := lboo N n n2 buf out buf2 out2 l i (by
    simp only [AllP, leAll, Int.toNat_natCast, getD_ltBo h]
    refine ⟨trivial, hc, ⟨Le.refl _, Le.refl _, trivial⟩, ⟨RowLe.refl _, RowLe.refl _, RowLe.refl _, RowLe.refl _, trivial⟩, ⟨by omega, by omega⟩, by simp; omega, trivial⟩)
  rw [w] at e
  exact e.slots fun t a hm => by simp [slBo, roBo] at hm ⊢; rcases hm with h | h | h | h | h | h <;> simp [h]
theorem bodyBo_nn (l : List Bool) (hl : l.length ≤ 1000000) (i : Nat) (h : i < l.length) (N n : Nat) (buf : List UInt8) (n2 : Nat) (buf2 : List UInt8) (hc : ACalls Try.prog noG 42 [.ptr 0 0, elBo l[i]] (rN N n buf) nilE (rN N n2 buf2)) :
    CodeC Try.prog noG 34 (loopAt Try.f41 0) (slBo l i) (rN N n buf) .normal (slBo l (i + 1)) (rN N n2 buf2) := by
  have w : IntKind.i64.wrap ((i : Int) + 1) = ((i + 1 : Nat) : Int) := by rw [wrap64 (by omega) (by omega)]; simp
  have e := lbnn N n n2 buf buf2 l i (by
    simp only [AllP, leAll, Int.toNat_natCast, getD_ltBo h]
    refine ⟨trivial, hc, ⟨Le.refl _, Le.refl _, trivial⟩, ⟨RowLe.refl _, RowLe.refl _, RowLe.refl _, trivial⟩, ⟨by omega, by omega⟩, by simp; omega, trivial⟩)
  rw [w] at e
  exact e.slots fun t a hm => by simp [slBo, roBo] at hm ⊢; rcases hm with h | h | h | h | h | h <;> simp [h]
theorem bodyBo_no (l : List Bool) (hl : l.length ≤ 1000000) (i : Nat) (h : i < l.length) (N n : Nat) (buf : List UInt8) (n2 : Nat) (buf2 out2 : List UInt8) (hc : ACalls Try.prog noG 42 [.ptr 0 0, elBo l[i]] (rN N n buf) nilE (rO N n2 buf2 out2)) :
    CodeC Try.prog noG 34 (loopAt Try.f41 0) (slBo l i) (rN N n buf) .normal (slBo l (i + 1)) (rO N n2 buf2 out2) := by
  have w : IntKind.i64.wrap ((i : Int) + 1) = ((i + 1 : Nat) : Int) := by rw [wrap64 (by omega) (by omega)]; simp
  have e := lbno N n n2 buf buf2 out2 l i (by
    simp only [AllP, leAll, Int.toNat_natCast, getD_ltBo h]
    refine ⟨trivial, hc, ⟨Le.refl _, Le.refl _, trivial⟩, ⟨RowLe.refl _, RowLe.refl _, RowLe.refl _, trivial⟩, ⟨by omega, by omega⟩, by simp; omega, trivial⟩)
  rw [w] at e
  exact e.slots fun t a hm => by simp [slBo, roBo] at hm ⊢; rcases hm with h | h | h | h | h | h <;> simp [h]
theorem exBo_o (l : List Bool) (N n : Nat) (buf out : List UInt8) : CodeC Try.prog noG 34 (loopAt Try.f41 0) (slBo l l.length) (rO N n buf out) (.exit 0) [(8, .ptr 1 0), (9, .ptr 0 0)] (rO N n buf out) :=
  (lbxo N n buf out l l.length (by simp [AllP])).slots fun t a hm => by simp [slBo, roBo] at hm ⊢; rcases hm with h | h | h | h | h | h <;> simp [h]
theorem exBo_n (l : List Bool) (N n : Nat) (buf : List UInt8) : CodeC Try.prog noG 34 (loopAt Try.f41 0) (slBo l l.length) (rN N n buf) (.exit 0) [(8, .ptr 1 0), (9, .ptr 0 0)] (rN N n buf) :=
  (lbxn N n buf l l.length (by simp [AllP])).slots fun t a hm => by simp [slBo, roBo] at hm ⊢; rcases hm with h | h | h | h | h | h <;> simp [h]

theorem loopBo (l : List Bool) (hl : l.length ≤ 1000000) (hv : ∀ x ∈ l, True) (N : Nat) (h18 : 18 ≤ N) (hN : N ≤ 65536) :
    ∃ o2 buf2 n2, buf2.length = N ∧ n2 ≤ N ∧ cont o2 buf2 n2 = l.flatMap encBo ∧ (o2.getD []).length ≤ bigO ∧
      CodeC Try.prog noG 34 (.loop (loopAt Try.f41 0)) (slBo l 0) (rN N 0 (List.replicate N 0)) (.exit 0) [(8, .ptr 1 0), (9, .ptr 0 0)] (rS N n2 buf2 o2) := by
  obtain ⟨o2, buf2, n2, c1, c2, c3, c4, c5⟩ := writtenN (l := l) (enc := encBo) (g := 42) (el := elBo) (K := 5) (sl := slBo l) (fun x _ => encBo_len x) (fun x hx => cloBool x) (fun i => ⟨rfl, rfl, rfl⟩)
    (fun i h N n buf out n2 buf2 out2 hc => bodyBo_oo l hl i h N n buf out n2 buf2 out2 hc) (fun N n buf out => exBo_o l N n buf out) (fun i h N n buf n2 buf2 hc => bodyBo_nn l hl i h N n buf n2 buf2 hc)
    (fun i h N n buf n2 buf2 out2 hc => bodyBo_no l hl i h N n buf n2 buf2 out2 hc) (fun N n buf => exBo_n l N n buf) l.length 0 (by omega) (Nat.zero_le _) N 0 (List.replicate N 0) h18 hN (by simp) (Nat.zero_le _) (by simp [bigO]; omega)
  refine ⟨o2, buf2, n2, c1, c2, by simpa using c3, c4, ?_⟩
  cases o2 with
  | none => exact LoopK.code [some 0, some 1, some 2] c5 rfl rfl
  | some out2 => exact LoopK.code [some 0, some 1, some 2, some 3] c5 rfl rfl

theorem writtenBo (l : List Bool) (hl : l.length ≤ 1000000) (hv : ∀ x ∈ l, True) (N : Nat) (h18 : 18 ≤ N) (hN : N ≤ 65536) :
    ACalls Try.prog noG 41 [.lit (.int .i64 N), roBo l, .lit (.func (.func 42) #[] #[])] [] (.tup [.bts (l.flatMap encBo), .lit (.bool true)]) [] := by
  obtain ⟨o2, buf2, n2, c1, c2, c3, c4, c5⟩ := loopBo l hl hv N h18 hN
  have nw := newWriter N h18 hN
  have d : (if (65536 : Int) < (if (0 : Int) > (N : Int) then (0 : Int) else (N : Int)) then (65536 : Int) else (if (0 : Int) > (N : Int) then (0 : Int) else (N : Int))) = N := by
    have h : ¬ (0 : Int) > (N : Int) := by omega
    rw [if_neg h, if_neg (by omega)]
  have hbo : N ≤ bigO := by simp [bigO]; omega
  have c6 := c5.slots (vals0 := [(2, .lit (.func (.func 42) #[] #[])), (9, .ptr 0 0), (8, .ptr 1 0), (17, roBo l), (18, .lit (.int .i64 l.length)), (19, .lit (.int .i64 (0 : Int)))]) fun t a hm => by
    simp [slBo] at hm ⊢; rcases hm with h | h | h | h | h | h <;> simp [h]
  cases o2 with
  | none =>
    rcases Nat.eq_zero_or_pos n2 with rfl | h0
    · have f := flushEndN0 N buf2
      have e := wbA N 0 buf2 l (by
        simp only [AllP, leAll, d]
        exact ⟨trivial, f, ⟨Le.refl _, trivial⟩, ⟨RowLe.refl _, RowLe.refl _, RowLe.refl _, trivial⟩, c6, ⟨Le.refl _, Le.refl _, Le.refl _, Le.refl _, Le.refl _, Le.refl _, trivial⟩, ⟨RowLe.refl _, RowLe.refl _, RowLe.refl _, trivial⟩,
          nw, ⟨Le.refl _, Le.refl _, trivial⟩, ⟨RowLe.refl _, trivial⟩, trivial⟩)
      have h3 : l.flatMap encBo = [] := by rw [← c3]; simp [cont]
      rw [h3]
      exact e.le (leAll_refl _) (Le_nil_tup _) rfl
    · have f := flushEndN N n2 buf2 h0 c2 c1 hbo
      have e := wbB N n2 buf2 (buf2.take n2) l (by
        simp only [AllP, leAll, d]
        exact ⟨trivial, f, ⟨Le.refl _, trivial⟩, ⟨RowLe.refl _, RowLe.refl _, RowLe.refl _, trivial⟩, c6, ⟨Le.refl _, Le.refl _, Le.refl _, Le.refl _, Le.refl _, Le.refl _, trivial⟩, ⟨RowLe.refl _, RowLe.refl _, RowLe.refl _, trivial⟩,
          nw, ⟨Le.refl _, Le.refl _, trivial⟩, ⟨RowLe.refl _, trivial⟩, trivial⟩)
      have h2 := (e.freezeRet 0 rfl rfl).only [] (by rfl)
      rw [← c3]
      exact h2.cast rfl rfl (by simp [AV.frz, AV.frzL, frzOwn, AV.ren, AV.renL, cont, List.take_of_length_le]) rfl
  | some out2 =>
    have f := flushEndO N n2 buf2 out2 c2 c1 hbo c4
    have e := wbC N n2 buf2 out2 (out2 ++ buf2.take n2) l (by
      simp only [AllP, leAll, d]
      exact ⟨trivial, f, ⟨Le.refl _, trivial⟩, ⟨RowLe.refl _, RowLe.refl _, RowLe.refl _, RowLe.refl _, trivial⟩, c6, ⟨Le.refl _, Le.refl _, Le.refl _, Le.refl _, Le.refl _, Le.refl _, trivial⟩, ⟨RowLe.refl _, RowLe.refl _, RowLe.refl _, trivial⟩,
        nw, ⟨Le.refl _, Le.refl _, trivial⟩, ⟨RowLe.refl _, trivial⟩, trivial⟩)
    have h2 := (e.freezeRet 0 rfl rfl).only [] (by rfl)
    rw [← c3]
    exact h2.cast rfl rfl (by simp [AV.frz, AV.frzL, frzOwn, AV.ren, AV.renL, cont, List.take_of_length_le]) rfl

theorem streamBo (l : List Bool) (hl : l.length ≤ 1000000) (hv : ∀ x ∈ l, True) (N : Nat) (h18 : 18 ≤ N) (hN : N ≤ 65536) :
    ACalls Try.prog noG 24 [.lit (.int .i64 N), roBo l] [] (.tup [.bts (l.flatMap encBo), .lit (.bool true)]) [] :=
  sb N (l.flatMap encBo) l (by
    have := writtenBo l hl hv N h18 hN
    simp only [AllP, leAll]
    exact ⟨this, ⟨Le.refl _, Le.refl _, Le.refl _, trivial⟩, trivial, trivial⟩)


theorem tn1 (d : List UInt8) : ((d.length : Int) + 1).toNat = d.length + 1 := by omega
theorem tl1 (d : List UInt8) : (1 : Int) ≤ (d.length : Int) + 1 := by omega
theorem tl0 (d : List UInt8) : (0 : Int) < (d.length : Int) + 1 := by omega

theorem takeBo (b : Bool) (r : List UInt8) : ACalls Try.prog noG 32 [.bts (encBo b ++ r), .lit (.int .i64 2)] [] (.tup [zpack 1 (bitI b), .bts r, .lit (.bool true)]) [] := by
  have t0 : ACalls Try.prog noG 35 [.bts r, .lit (.int .i64 0)] [] (.tup [.lit (.int .u64 0), .bts r, .lit (.bool true)]) [] := (takeBig r 0 (Nat.zero_le _) (by omega)).cast rfl rfl (by simp [bigA]) rfl
  cases b with
  | true =>
    have c := tc195 r (by simp [AllP, leAll]; exact t0)
    have e := tb195 r 1 (by simp [AllP, leAll, tn1, tl1, tl0]; exact c)
    exact e.cast (by simp [encBo, codeB]) rfl rfl rfl
  | false =>
    have c := tc194 r (by simp [AllP, leAll]; exact t0)
    have e := tb194 r 0 (by simp [AllP, leAll, tn1, tl1, tl0]; exact c)
    exact e.cast (by simp [encBo, codeB]) rfl rfl rfl

def cellP (k n : Int) : List AV := [.lit (.int .i64 k), .lit (.int .u64 n), .lit (.string .empty), .lit (.int .i64 0), .lit (.slice none 0 0)]
def roP (k : Int) (l : List Int) : AV := .ro 5 l.length (fun i => cellP k (l.getD i 0))
def slO (k : Int) (l : List Int) (data : List UInt8) (i : Nat) : List (Nat × AV) := [(0, .bts data), (1, .lit (.bool true)), (12, roP k l), (13, .lit (.int .i64 l.length)), (14, .lit (.int .i64 i))]

section
variable {α : Type} {l : List α} {num : α → Int} {enc : α → List UInt8} {k : Int} {K2 : α → Int}

theorem inLoop (hl : l.length ≤ 1000000) (ht : ∀ x ∈ l, ∀ r, ACalls Try.prog noG 32 [.bts (enc x ++ r), .lit (.int .i64 2)] [] (.tup [zpack (K2 x) (num x), .bts r, .lit (.bool true)]) [])
    (hs : ∀ x ∈ l, ACalls Try.prog noG 33 [zpack k (num x), zpack (K2 x) (num x)] [] (.lit (.bool true)) []) : ∀ (m i : Nat), l.length - i = m → i ≤ l.length →
    LoopC Try.prog noG 44 (loopAt Try.f26 0) (slO k (l.map num) ((l.drop i).flatMap enc) i) [] (.exit 0) [(0, .bts []), (1, .lit (.bool true))] []
  | 0, i, hk, hi => by
    have he : i = l.length := by omega
    subst he
    have := LoopC.exit (iox k [] (l.map num) l.length (by simp [AllP])) (by simp)
    simpa [slO, roP, cellP] using this
  | m + 1, i, hk, hi => by
    have hlt : i < l.length := by omega
    have w : IntKind.i64.wrap ((i : Int) + 1) = ((i + 1 : Nat) : Int) := by rw [wrap64 (by omega) (by omega)]; simp
    have g : (l.map num).getD i 0 = num l[i] := by simp [hlt]
    have t := ht l[i] (List.getElem_mem _) ((l.drop (i + 1)).flatMap enc)
    have s := hs l[i] (List.getElem_mem _)
    have hd : (l.drop i).flatMap enc = enc l[i] ++ (l.drop (i + 1)).flatMap enc := by rw [List.drop_eq_getElem_cons hlt, List.flatMap_cons]
    rw [← hd] at t
    have e := iol k (K2 l[i]) (num l[i]) ((l.drop i).flatMap enc) ((l.drop (i + 1)).flatMap enc) (l.map num) i (by
      simp only [AllP, leAll, Int.toNat_natCast, g]
      simp only [zpack] at t s
      simp [t, s]
      omega)
    rw [w] at e
    exact LoopC.step e (inLoop hl ht hs m (i + 1) (by omega) (by omega))

theorem inOrder (hl : l.length ≤ 1000000) (ht : ∀ x ∈ l, ∀ r, ACalls Try.prog noG 32 [.bts (enc x ++ r), .lit (.int .i64 2)] [] (.tup [zpack (K2 x) (num x), .bts r, .lit (.bool true)]) [])
    (hs : ∀ x ∈ l, ACalls Try.prog noG 33 [zpack k (num x), zpack (K2 x) (num x)] [] (.lit (.bool true)) []) : ACalls Try.prog noG 26 [.bts (l.flatMap enc), .lit (.bool true), roP k (l.map num)] [] (.lit (.bool true)) [] := by
  have c := (inLoop hl ht hs _ 0 rfl (Nat.zero_le _)).code
  simp only [List.drop_zero] at c
  refine (io7 k (l.flatMap enc) (l.map num) ?_).cast rfl rfl (by simp) rfl
  simp only [AllP, leAll]
  simp
  simpa [slO, roP, cellP] using c
end
section
variable {α : Type} (k : Int) (num : α → Int)
def cellsP (l : List α) : List AV := l.flatMap fun x => cellP k (num x)
theorem cellsP_len (l : List α) : (cellsP k num l).length = l.length * 5 := by
  induction l with
  | nil => rfl
  | cons x l ih => simp only [cellsP, List.flatMap_cons, List.length_append] at ih ⊢; rw [ih]; simp [cellP]; omega
theorem cellsP_ren (f : Nat → Option Nat) (l : List α) : AV.renL f (cellsP k num l) = cellsP k num l := by
  induction l with
  | nil => rfl
  | cons x l ih => simp only [cellsP, List.flatMap_cons, renL_app] at ih ⊢; rw [ih]; rfl
theorem closedL_app : ∀ a b : List AV, AV.closedL (a ++ b) = (AV.closedL a && AV.closedL b)
  | [], b => by simp [AV.closedL]
  | x :: a, b => by simp [AV.closedL, closedL_app a b, Bool.and_assoc]
theorem cellsP_closed (l : List α) : AV.closedL (cellsP k num l) = true := by
  induction l with
  | nil => rfl
  | cons x l ih => simp only [cellsP, List.flatMap_cons, closedL_app] at ih ⊢; rw [ih]; rfl
theorem cellsP_get (l : List α) (i : Nat) (h : i < l.length) : ((cellsP k num l).drop (0 + i * 5)).take 5 = cellP k (num l[i]) := by
  induction l generalizing i with
  | nil => simp at h
  | cons x l ih =>
    cases i with
    | zero => simp [cellsP, cellP]
    | succ i =>
      have := ih i (by simpa using h)
      simp only [cellsP, List.flatMap_cons, Nat.zero_add] at this ⊢
      rw [show (i + 1) * 5 = (cellP k (num x)).length + i * 5 by simp [cellP]; omega, ← List.drop_drop, List.drop_left]
      exact this
theorem cellsP_snoc (l : List α) (i : Nat) (h : i < l.length) : cellsP k num (l.take (i + 1)) = cellsP k num (l.take i) ++ cellP k (num l[i]) := by
  simp only [cellsP, List.take_succ_eq_append_getElem h, List.flatMap_append, List.flatMap_cons, List.flatMap_nil, List.append_nil]
end


def slWBo (a : Int) (l : List Bool) (i : Nat) (w : AV) : List (Nat × AV) := [(0, .lit (.int .i64 a)), (1, roBo l), (7, .lit (.bool true)), (36, roBo l), (37, .lit (.int .i64 l.length)), (38, .lit (.int .i64 i)), (8, w)]
def outWBo (a : Int) (l : List Bool) (w : AV) : List (Nat × AV) := [(0, .lit (.int .i64 a)), (1, roBo l), (7, .lit (.bool true)), (8, w)]
def numBo (x : Bool) : Int := bitI x

theorem wantOBo (a : Int) (l : List Bool) (hl : l.length ≤ 1000000) (hv : ∀ x ∈ l, True) : ∀ (m i : Nat), l.length - i = m → i ≤ l.length →
    LoopK Try.prog noG 0 62 (loopAt Try.f8 0) (slWBo a l i (.own 0 0 i none)) [.cells 30 5 (cellsP 1 numBo (l.take i))] (.exit 0) (outWBo a l (.own 0 0 l.length none)) [.cells 30 5 (cellsP 1 numBo l)]
  | 0, i, hk, hi => by
    have he : i = l.length := by omega
    subst he
    have e := LoopK.exit (k := 0) (mbxo a l l.length l.length (cellsP 1 numBo (l.take l.length)) (by simp [AllP])) (by simp)
    rw [cellsP_ren] at e
    simpa [slWBo, outWBo, roBo] using e
  | m + 1, i, hk, hi => by
    have hlt : i < l.length := by omega
    have w : IntKind.i64.wrap ((i : Int) + 1) = ((i + 1 : Nat) : Int) := by rw [wrap64 (by omega) (by omega)]; simp
    have hx := hv l[i] (List.getElem_mem _)
    have w2 : (0 : Nat) = 0 := rfl
    have e := mbwo a l i i (cellsP 1 numBo (l.take i)) (numBo l[i]) (by simp only [AllP, leAll, Int.toNat_natCast, getD_ltBo hlt]; exact ⟨⟨by omega, by omega, trivial⟩, bit l[i], ⟨Le.refl _, trivial⟩, trivial, ⟨by omega, by omega⟩, by simp; omega, trivial⟩)
    have hlen : (cellsP 1 numBo (l.take i)).length = i * 5 := by rw [cellsP_len]; simp; omega
    have ht : List.take (i * 5) (cellsP 1 numBo (l.take i)) = cellsP 1 numBo (l.take i) := List.take_of_length_le (by omega)
    rw [w, List.drop_zero, ht] at e
    have hs := cellsP_snoc 1 numBo l i hlt
    have hc : AV.renL (idxIn [0, 577] 0) (cellsP 1 numBo (l.take i) ++ [.lit (.int .i64 1), .lit (.int .u64 (numBo l[i])), .lit (.string (ByteArray.mk #[])), .lit (.int .i64 0), .lit (.slice none 0 0)]) = cellsP 1 numBo (l.take (i + 1)) := by
      rw [renL_app, cellsP_ren, hs]; rfl
    refine LoopK.step [some 1] e rfl ?_
    refine (wantOBo a l hl hv m (i + 1) (by omega) (by omega)).cast ?_ ?_ rfl rfl
    · rfl
    · rw [← hc]
      simp only [outM, hL, nth, Row.ren, Option.getD_some]
      rw [hc, cellsP_ren]

theorem wantBo (a : Int) (l : List Bool) (hl : l.length ≤ 1000000) (hv : ∀ x ∈ l, True) (h0 : 0 < l.length) :
    CodeC Try.prog noG 62 (.loop (loopAt Try.f8 0)) (slWBo a l 0 (.lit (.slice none 0 0))) [] (.exit 0) (outWBo a l (.own 0 0 l.length none)) [.cells 30 5 (cellsP 1 numBo l)] := by
  have i := 0
  have hlt : 0 < l.length := h0
  have hx := hv l[0] (List.getElem_mem _)
  have w : IntKind.i64.wrap (((0 : Nat) : Int) + 1) = ((0 + 1 : Nat) : Int) := by decide
  have w2 : (0 : Nat) = 0 := rfl
  have e := mbwn a l 0 (numBo l[0]) (by simp only [AllP, leAll, Int.toNat_natCast, getD_ltBo hlt]; exact ⟨⟨by omega, by omega, by omega, trivial⟩, bit l[0], ⟨Le.refl _, trivial⟩, trivial, ⟨by omega, by omega⟩, by simp; omega, trivial⟩)
  rw [w] at e
  have e2 := wantOBo a l hl hv (l.length - 1) 1 rfl (by omega)
  have hs := cellsP_snoc 1 numBo l 0 hlt
  simp only [List.take_zero, Nat.zero_add] at hs
  have e3 := LoopK.step (k := 0) [some 0] e rfl (e2.cast rfl (by rw [hs]; rfl) rfl rfl)
  have e4 := LoopK.code [some 0] e3 rfl rfl
  refine e4.cast rfl rfl rfl ?_
  simp only [outM, hL, nth, Row.ren, Option.getD_some]
  rw [cellsP_ren]

theorem awakeBo : ACalls Try.prog noG 24 [.lit (.int .i64 100), .own 0 0 1 (some 1)] [.cells 4 1 [.lit (.bool true)]] (.tup [.bts [195], .lit (.bool true)]) [.gone] := by
  refine ACalls.freezeArg 0 (r := .cells 4 1 [.lit (.bool true)]) rfl rfl ?_
  have h := streamBo [true] (by simp) (by simp) 100 (by omega) (by omega)
  refine ((h.le (args' := [.lit (.int .i64 100), .ro 1 1 (fun i => (([AV.lit (.bool true)]).drop (0 + i * 1)).take 1)]) ?_ (Le.refl _) rfl).frame [.gone] ?_ rfl).cast rfl rfl rfl rfl
  · exact ⟨Le.refl _, Le_ro fun i hi => by have : i = 0 := by omega
                                           subst this; rfl, trivial⟩
  · exact ⟨Le.refl _, Le.refl _, trivial⟩

theorem orderBo (l : List Bool) (hl : l.length ≤ 1000000) (hv : ∀ x ∈ l, True) : ACalls Try.prog noG 26 [.bts (l.flatMap encBo), .lit (.bool true), .own 0 0 l.length none] [.cells 30 5 (cellsP 1 numBo l)] (.lit (.bool true)) [.gone] := by
  refine ACalls.freezeArg 0 (r := .cells 30 5 (cellsP 1 numBo l)) rfl (cellsP_closed 1 numBo l) ?_
  have h := inOrder (l := l) (num := numBo) (enc := encBo) (k := 1) hl (K2 := fun _ => 1) (fun x hx r => takeBo x r) (fun x hx => samePack0 _)
  refine ((h.le (args' := [.bts (l.flatMap encBo), .lit (.bool true), .ro 5 l.length (fun i => ((cellsP 1 numBo l).drop (0 + i * 5)).take 5)]) ?_ (Le.refl _) rfl).frame [.gone] ?_ rfl).cast rfl rfl rfl rfl
  · refine ⟨Le.refl _, Le.refl _, ?_, trivial⟩
    have hm : (l.map numBo).length = l.length := by simp
    rw [roP, hm]
    refine Le_ro fun i hi => ?_
    rw [cellsP_get 1 numBo l i hi]
    simp [hi]
  · exact ⟨Le.refl _, Le.refl _, Le.refl _, trivial⟩

theorem orderEBo : ACalls Try.prog noG 26 [.bts [], .lit (.bool true), .lit (.slice none 0 0)] [] (.lit (.bool true)) [] := by
  have h := inOrder (l := ([] : List Bool)) (num := numBo) (enc := encBo) (k := 1) (K2 := fun _ => 0) (by simp) (by simp) (by simp)
  exact h.le ⟨Le.refl _, Le.refl _, fun ρ hp O w v hv => by rw [VR_lit hv]; exact .dr .ronil, trivial⟩ (Le.refl _) rfl

theorem fnStreamPutBool (a : Int) (l : List Bool) (hv : ∀ x ∈ l, True) : ACalls Try.prog noG 8 [.lit (.int .i64 a), roBo l] [] (.lit (.bool true)) [] := by
  by_cases h1 : (2147483647 : Int) < l.length
  · exact mba a l (by simp [AllP, h1])
  · have d0 : Decidable.decide ((l.length : Int) > 2147483647) = false := by simp; omega
    have aw := awakeBo
    by_cases hb : 18 ≤ a ∧ a ≤ 65536
    · obtain ⟨n, rfl⟩ := Int.eq_ofNat_of_zero_le (show 0 ≤ a by omega)
      have b := buffersT n hb.1 hb.2
      by_cases h2 : l.length ≤ 100
      · have s := streamBo l (by omega) hv n (by omega) (by omega)
        have d1 : Decidable.decide ((l.length : Int) > 100) = false := by simp; omega
        rcases Nat.eq_zero_or_pos l.length with h3 | h3
        · obtain rfl := List.eq_nil_of_length_eq_zero h3
          have lp : CodeC Try.prog noG 62 (.loop (loopAt Try.f8 0)) (slWBo n [] 0 (.lit (.slice none 0 0))) [] (.exit 0) (outWBo n [] (.lit (.slice none 0 0))) [] := (LoopC.exit (mbxn n [] 0 (by simp [AllP])) (by simp)).code
          refine (mbd n [] [] ?_).cast rfl rfl (by simp) rfl
          simp only [AllP, leAll, d0, d1]
          simp
          exact ⟨orderEBo, s, lp, b, aw⟩
        · have lp := wantBo n l (by omega) hv h3
          have o := orderBo l (by omega) hv
          refine (mbe n l (l.flatMap encBo) l.length (cellsP 1 numBo l) ?_).cast rfl rfl (by simp) rfl
          simp only [AllP, leAll, d0, d1, cellsP_ren]
          simp
          exact ⟨o, s, lp, b, aw⟩
      · refine (mbc n l ?_).cast rfl rfl (by simp) rfl
        simp only [AllP, leAll, d0]
        simp
        exact ⟨by omega, b, aw⟩
    · have b := buffersF a hb
      refine (mbb a l ?_).cast rfl rfl (by simp) rfl
      simp only [AllP, leAll, d0]
      simp
      exact ⟨b, aw⟩
end Go.Ax
