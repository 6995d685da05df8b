/-
  Lists of integers that a Writer writes, each function by a contract.
-/
import Derived.Test.YtdkiaokbiildaaaWuC
set_option linter.unusedVariables false
set_option linter.unusedSimpArgs false
set_option maxRecDepth 100000
namespace Go.Ax
open Go.Proofs

def elU (x : Nat) : AV := .lit (.int .u16 x)
def roU (l : List Nat) : AV := .ro 1 l.length (fun i => [.lit (.int .u16 ((l.getD i 0 : Nat) : Int))])
def slU (l : List Nat) (i : Nat) : List (Nat × AV) :=
  [(2, .lit (.func (.func 10) #[] #[])), (8, .ptr 1 0), (9, .ptr 0 0), (17, roU l), (18, .lit (.int .i64 l.length)), (19, .lit (.int .i64 i))]

theorem getD_lt {l : List Nat} {i : Nat} (h : i < l.length) : l.getD i 0 = l[i] := by simp [h]

theorem bodyU_oo (l : List Nat) (hl : l.length ≤ 1000000) (i : Nat) (h : i < l.length) (N n : Nat) (buf out : List UInt8) (n2 : Nat) (buf2 out2 : List UInt8) (hc : ACalls Try.prog noG 10 [.ptr 0 0, elU l[i]] (rO N n buf out) nilE (rM N n2 buf2 out2)) :
    CodeC Try.prog noG 34 (loopAt Try.f9 0) (slU l i) (rO N n buf out) .normal (slU l (i + 1)) (rM N n2 buf2 out2) := by
  have w : IntKind.i64.wrap ((i : Int) + 1) = ((i + 1 : Nat) : Int) := by rw [wrap64 (by omega) (by omega)]; simp
  have e := luoo N n n2 buf out buf2 out2 l i (by
    simp only [AllP, leAll, Int.toNat_natCast, getD_lt h]
    refine ⟨trivial, hc, ⟨Le.refl _, Le.refl _, trivial⟩, ⟨RowLe.refl _, RowLe.refl _, RowLe.refl _, RowLe.refl _, trivial⟩, ⟨by omega, by omega⟩, by simp; omega, trivial⟩)
  rw [w] at e
  exact e.slots fun t a hm => by simp [slU, roU] at hm ⊢; rcases hm with h | h | h | h | h | h <;> simp [h]
theorem bodyU_nn (l : List Nat) (hl : l.length ≤ 1000000) (i : Nat) (h : i < l.length) (N n : Nat) (buf : List UInt8) (n2 : Nat) (buf2 : List UInt8) (hc : ACalls Try.prog noG 10 [.ptr 0 0, elU l[i]] (rN N n buf) nilE (rN N n2 buf2)) :
    CodeC Try.prog noG 34 (loopAt Try.f9 0) (slU l i) (rN N n buf) .normal (slU l (i + 1)) (rN N n2 buf2) := by
  have w : IntKind.i64.wrap ((i : Int) + 1) = ((i + 1 : Nat) : Int) := by rw [wrap64 (by omega) (by omega)]; simp
  have e := lunn N n n2 buf buf2 l i (by
    simp only [AllP, leAll, Int.toNat_natCast, getD_lt h]
    refine ⟨trivial, hc, ⟨Le.refl _, Le.refl _, trivial⟩, ⟨RowLe.refl _, RowLe.refl _, RowLe.refl _, trivial⟩, ⟨by omega, by omega⟩, by simp; omega, trivial⟩)
  rw [w] at e
  exact e.slots fun t a hm => by simp [slU, roU] at hm ⊢; rcases hm with h | h | h | h | h | h <;> simp [h]
theorem bodyU_no (l : List Nat) (hl : l.length ≤ 1000000) (i : Nat) (h : i < l.length) (N n : Nat) (buf : List UInt8) (n2 : Nat) (buf2 out2 : List UInt8) (hc : ACalls Try.prog noG 10 [.ptr 0 0, elU l[i]] (rN N n buf) nilE (rO N n2 buf2 out2)) :
    CodeC Try.prog noG 34 (loopAt Try.f9 0) (slU l i) (rN N n buf) .normal (slU l (i + 1)) (rO N n2 buf2 out2) := by
  have w : IntKind.i64.wrap ((i : Int) + 1) = ((i + 1 : Nat) : Int) := by rw [wrap64 (by omega) (by omega)]; simp
  have e := luno N n n2 buf buf2 out2 l i (by
    simp only [AllP, leAll, Int.toNat_natCast, getD_lt h]
    refine ⟨trivial, hc, ⟨Le.refl _, Le.refl _, trivial⟩, ⟨RowLe.refl _, RowLe.refl _, RowLe.refl _, trivial⟩, ⟨by omega, by omega⟩, by simp; omega, trivial⟩)
  rw [w] at e
  exact e.slots fun t a hm => by simp [slU, roU] at hm ⊢; rcases hm with h | h | h | h | h | h <;> simp [h]
theorem exU_o (l : List Nat) (N n : Nat) (buf out : List UInt8) : CodeC Try.prog noG 34 (loopAt Try.f9 0) (slU l l.length) (rO N n buf out) (.exit 0) [(8, .ptr 1 0), (9, .ptr 0 0)] (rO N n buf out) :=
  (luxo N n buf out l l.length (by simp [AllP])).slots fun t a hm => by simp [slU, roU] at hm ⊢; rcases hm with h | h | h | h | h | h <;> simp [h]
theorem exU_n (l : List Nat) (N n : Nat) (buf : List UInt8) : CodeC Try.prog noG 34 (loopAt Try.f9 0) (slU l l.length) (rN N n buf) (.exit 0) [(8, .ptr 1 0), (9, .ptr 0 0)] (rN N n buf) :=
  (luxn N n buf l l.length (by simp [AllP])).slots fun t a hm => by simp [slU, roU] at hm ⊢; rcases hm with h | h | h | h | h | h <;> simp [h]

theorem loopU (l : List Nat) (hl : l.length ≤ 1000000) (hv : ∀ x ∈ l, x < 65536) (N : Nat) (h18 : 18 ≤ N) (hN : N ≤ 65536) :
    ∃ o2 buf2 n2, buf2.length = N ∧ n2 ≤ N ∧ cont o2 buf2 n2 = l.flatMap encU ∧ (o2.getD []).length ≤ bigO ∧
      CodeC Try.prog noG 34 (.loop (loopAt Try.f9 0)) (slU l 0) (rN N 0 (List.replicate N 0)) (.exit 0) [(8, .ptr 1 0), (9, .ptr 0 0)] (rS N n2 buf2 o2) := by
  obtain ⟨o2, buf2, n2, c1, c2, c3, c4, c5⟩ := writtenN (l := l) (enc := encU) (g := 10) (el := elU) (K := 5) (sl := slU l) (fun x _ => encU_len x) (fun x hx => cloU x (hv x hx)) (fun i => ⟨rfl, rfl, rfl⟩)
    (fun i h N n buf out n2 buf2 out2 hc => bodyU_oo l hl i h N n buf out n2 buf2 out2 hc) (fun N n buf out => exU_o l N n buf out) (fun i h N n buf n2 buf2 hc => bodyU_nn l hl i h N n buf n2 buf2 hc)
    (fun i h N n buf n2 buf2 out2 hc => bodyU_no l hl i h N n buf n2 buf2 out2 hc) (fun N n buf => exU_n l N n buf) l.length 0 (by omega) (Nat.zero_le _) N 0 (List.replicate N 0) h18 hN (by simp) (Nat.zero_le _) (by simp [bigO]; omega)
  refine ⟨o2, buf2, n2, c1, c2, by simpa using c3, c4, ?_⟩
  cases o2 with
  | none => exact LoopK.code [some 0, some 1, some 2] c5 rfl rfl
  | some out2 => exact LoopK.code [some 0, some 1, some 2, some 3] c5 rfl rfl

theorem writtenU (l : List Nat) (hl : l.length ≤ 1000000) (hv : ∀ x ∈ l, x < 65536) (N : Nat) (h18 : 18 ≤ N) (hN : N ≤ 65536) :
    ACalls Try.prog noG 9 [.lit (.int .i64 N), roU l, .lit (.func (.func 10) #[] #[])] [] (.tup [.bts (l.flatMap encU), .lit (.bool true)]) [] := by
  obtain ⟨o2, buf2, n2, c1, c2, c3, c4, c5⟩ := loopU l hl hv N h18 hN
  have nw := newWriter N h18 hN
  have d : (if (65536 : Int) < (if (0 : Int) > (N : Int) then (0 : Int) else (N : Int)) then (65536 : Int) else (if (0 : Int) > (N : Int) then (0 : Int) else (N : Int))) = N := by
    have h : ¬ (0 : Int) > (N : Int) := by omega
    rw [if_neg h, if_neg (by omega)]
  have hbo : N ≤ bigO := by simp [bigO]; omega
  have c6 := c5.slots (vals0 := [(2, .lit (.func (.func 10) #[] #[])), (9, .ptr 0 0), (8, .ptr 1 0), (17, roU l), (18, .lit (.int .i64 l.length)), (19, .lit (.int .i64 (0 : Int)))]) fun t a hm => by
    simp [slU] at hm ⊢; rcases hm with h | h | h | h | h | h <;> simp [h]
  cases o2 with
  | none =>
    rcases Nat.eq_zero_or_pos n2 with rfl | h0
    · have f := flushEndN0 N buf2
      have e := wuA N 0 buf2 l (by
        simp only [AllP, leAll, d]
        exact ⟨trivial, f, ⟨Le.refl _, trivial⟩, ⟨RowLe.refl _, RowLe.refl _, RowLe.refl _, trivial⟩, c6, ⟨Le.refl _, Le.refl _, Le.refl _, Le.refl _, Le.refl _, Le.refl _, trivial⟩, ⟨RowLe.refl _, RowLe.refl _, RowLe.refl _, trivial⟩,
          nw, ⟨Le.refl _, Le.refl _, trivial⟩, ⟨RowLe.refl _, trivial⟩, trivial⟩)
      have h3 : l.flatMap encU = [] := by rw [← c3]; simp [cont]
      rw [h3]
      exact e.le (leAll_refl _) (Le_nil_tup _) rfl
    · have f := flushEndN N n2 buf2 h0 c2 c1 hbo
      have e := wuB N n2 buf2 (buf2.take n2) l (by
        simp only [AllP, leAll, d]
        exact ⟨trivial, f, ⟨Le.refl _, trivial⟩, ⟨RowLe.refl _, RowLe.refl _, RowLe.refl _, trivial⟩, c6, ⟨Le.refl _, Le.refl _, Le.refl _, Le.refl _, Le.refl _, Le.refl _, trivial⟩, ⟨RowLe.refl _, RowLe.refl _, RowLe.refl _, trivial⟩,
          nw, ⟨Le.refl _, Le.refl _, trivial⟩, ⟨RowLe.refl _, trivial⟩, trivial⟩)
      have h2 := (e.freezeRet 0 rfl rfl).only [] (by rfl)
      rw [← c3]
      exact h2.cast rfl rfl (by simp [AV.frz, AV.frzL, frzOwn, AV.ren, AV.renL, cont, List.take_of_length_le]) rfl
  | some out2 =>
    have f := flushEndO N n2 buf2 out2 c2 c1 hbo c4
    have e := wuC N n2 buf2 out2 (out2 ++ buf2.take n2) l (by
      simp only [AllP, leAll, d]
      exact ⟨trivial, f, ⟨Le.refl _, trivial⟩, ⟨RowLe.refl _, RowLe.refl _, RowLe.refl _, RowLe.refl _, trivial⟩, c6, ⟨Le.refl _, Le.refl _, Le.refl _, Le.refl _, Le.refl _, Le.refl _, trivial⟩, ⟨RowLe.refl _, RowLe.refl _, RowLe.refl _, trivial⟩,
        nw, ⟨Le.refl _, Le.refl _, trivial⟩, ⟨RowLe.refl _, trivial⟩, trivial⟩)
    have h2 := (e.freezeRet 0 rfl rfl).only [] (by rfl)
    rw [← c3]
    exact h2.cast rfl rfl (by simp [AV.frz, AV.frzL, frzOwn, AV.ren, AV.renL, cont, List.take_of_length_le]) rfl

theorem streamU (l : List Nat) (hl : l.length ≤ 1000000) (hv : ∀ x ∈ l, x < 65536) (N : Nat) (h18 : 18 ≤ N) (hN : N ≤ 65536) :
    ACalls Try.prog noG 5 [.lit (.int .i64 N), roU l] [] (.tup [.bts (l.flatMap encU), .lit (.bool true)]) [] :=
  su N (l.flatMap encU) l (by
    have := writtenU l hl hv N h18 hN
    simp only [AllP, leAll]
    exact ⟨this, ⟨Le.refl _, Le.refl _, Le.refl _, trivial⟩, trivial, trivial⟩)

def elI (x : Int) : AV := .lit (.int .i16 x)
def roI (l : List Int) : AV := .ro 1 l.length (fun i => [.lit (.int .i16 (l.getD i 0))])
def slI (l : List Int) (i : Nat) : List (Nat × AV) :=
  [(2, .lit (.func (.func 15) #[] #[])), (8, .ptr 1 0), (9, .ptr 0 0), (17, roI l), (18, .lit (.int .i64 l.length)), (19, .lit (.int .i64 i))]

theorem getD_ltI {l : List Int} {i : Nat} (h : i < l.length) : l.getD i 0 = l[i] := by simp [h]

theorem bodyI_oo (l : List Int) (hl : l.length ≤ 1000000) (i : Nat) (h : i < l.length) (N n : Nat) (buf out : List UInt8) (n2 : Nat) (buf2 out2 : List UInt8) (hc : ACalls Try.prog noG 15 [.ptr 0 0, elI l[i]] (rO N n buf out) nilE (rM N n2 buf2 out2)) :
    CodeC Try.prog noG 34 (loopAt Try.f14 0) (slI l i) (rO N n buf out) .normal (slI l (i + 1)) (rM N n2 buf2 out2) := by
  have w : IntKind.i64.wrap ((i : Int) + 1) = ((i + 1 : Nat) : Int) := by rw [wrap64 (by omega) (by omega)]; simp
  have e := lioo N n n2 buf out buf2 out2 l i (by
    simp only [AllP, leAll, Int.toNat_natCast, getD_ltI h]
    refine ⟨trivial, hc, ⟨Le.refl _, Le.refl _, trivial⟩, ⟨RowLe.refl _, RowLe.refl _, RowLe.refl _, RowLe.refl _, trivial⟩, ⟨by omega, by omega⟩, by simp; omega, trivial⟩)
  rw [w] at e
  exact e.slots fun t a hm => by simp [slI, roI] at hm ⊢; rcases hm with h | h | h | h | h | h <;> simp [h]
theorem bodyI_nn (l : List Int) (hl : l.length ≤ 1000000) (i : Nat) (h : i < l.length) (N n : Nat) (buf : List UInt8) (n2 : Nat) (buf2 : List UInt8) (hc : ACalls Try.prog noG 15 [.ptr 0 0, elI l[i]] (rN N n buf) nilE (rN N n2 buf2)) :
    CodeC Try.prog noG 34 (loopAt Try.f14 0) (slI l i) (rN N n buf) .normal (slI l (i + 1)) (rN N n2 buf2) := by
  have w : IntKind.i64.wrap ((i : Int) + 1) = ((i + 1 : Nat) : Int) := by rw [wrap64 (by omega) (by omega)]; simp
  have e := linn N n n2 buf buf2 l i (by
    simp only [AllP, leAll, Int.toNat_natCast, getD_ltI h]
    refine ⟨trivial, hc, ⟨Le.refl _, Le.refl _, trivial⟩, ⟨RowLe.refl _, RowLe.refl _, RowLe.refl _, trivial⟩, ⟨by omega, by omega⟩, by simp; omega, trivial⟩)
  rw [w] at e
  exact e.slots fun t a hm => by simp [slI, roI] at hm ⊢; rcases hm with h | h | h | h | h | h <;> simp [h]
theorem bodyI_no (l : List Int) (hl : l.length ≤ 1000000) (i : Nat) (h : i < l.length) (N n : Nat) (buf : List UInt8) (n2 : Nat) (buf2 out2 : List UInt8) (hc : ACalls Try.prog noG 15 [.ptr 0 0, elI l[i]] (rN N n buf) nilE (rO N n2 buf2 out2)) :
    CodeC Try.prog noG 34 (loopAt Try.f14 0) (slI l i) (rN N n buf) .normal (slI l (i + 1)) (rO N n2 buf2 out2) := by
  have w : IntKind.i64.wrap ((i : Int) + 1) = ((i + 1 : Nat) : Int) := by rw [wrap64 (by omega) (by omega)]; simp
  have e := lino N n n2 buf buf2 out2 l i (by
    simp only [AllP, leAll, Int.toNat_natCast, getD_ltI h]
    refine ⟨trivial, hc, ⟨Le.refl _, Le.refl _, trivial⟩, ⟨RowLe.refl _, RowLe.refl _, RowLe.refl _, trivial⟩, ⟨by omega, by omega⟩, by simp; omega, trivial⟩)
  rw [w] at e
  exact e.slots fun t a hm => by simp [slI, roI] at hm ⊢; rcases hm with h | h | h | h | h | h <;> simp [h]
theorem exI_o (l : List Int) (N n : Nat) (buf out : List UInt8) : CodeC Try.prog noG 34 (loopAt Try.f14 0) (slI l l.length) (rO N n buf out) (.exit 0) [(8, .ptr 1 0), (9, .ptr 0 0)] (rO N n buf out) :=
  (lixo N n buf out l l.length (by simp [AllP])).slots fun t a hm => by simp [slI, roI] at hm ⊢; rcases hm with h | h | h | h | h | h <;> simp [h]
theorem exI_n (l : List Int) (N n : Nat) (buf : List UInt8) : CodeC Try.prog noG 34 (loopAt Try.f14 0) (slI l l.length) (rN N n buf) (.exit 0) [(8, .ptr 1 0), (9, .ptr 0 0)] (rN N n buf) :=
  (lixn N n buf l l.length (by simp [AllP])).slots fun t a hm => by simp [slI, roI] at hm ⊢; rcases hm with h | h | h | h | h | h <;> simp [h]

theorem loopI (l : List Int) (hl : l.length ≤ 1000000) (hv : ∀ x ∈ l, -32768 ≤ x ∧ x ≤ 32767) (N : Nat) (h18 : 18 ≤ N) (hN : N ≤ 65536) :
    ∃ o2 buf2 n2, buf2.length = N ∧ n2 ≤ N ∧ cont o2 buf2 n2 = l.flatMap encI ∧ (o2.getD []).length ≤ bigO ∧
      CodeC Try.prog noG 34 (.loop (loopAt Try.f14 0)) (slI l 0) (rN N 0 (List.replicate N 0)) (.exit 0) [(8, .ptr 1 0), (9, .ptr 0 0)] (rS N n2 buf2 o2) := by
  obtain ⟨o2, buf2, n2, c1, c2, c3, c4, c5⟩ := writtenN (l := l) (enc := encI) (g := 15) (el := elI) (K := 5) (sl := slI l) (fun x _ => encI_len x) (fun x hx => cloI x (hv x hx).1 (hv x hx).2) (fun i => ⟨rfl, rfl, rfl⟩)
    (fun i h N n buf out n2 buf2 out2 hc => bodyI_oo l hl i h N n buf out n2 buf2 out2 hc) (fun N n buf out => exI_o l N n buf out) (fun i h N n buf n2 buf2 hc => bodyI_nn l hl i h N n buf n2 buf2 hc)
    (fun i h N n buf n2 buf2 out2 hc => bodyI_no l hl i h N n buf n2 buf2 out2 hc) (fun N n buf => exI_n l N n buf) l.length 0 (by omega) (Nat.zero_le _) N 0 (List.replicate N 0) h18 hN (by simp) (Nat.zero_le _) (by simp [bigO]; omega)
  refine ⟨o2, buf2, n2, c1, c2, by simpa using c3, c4, ?_⟩
  cases o2 with
  | none => exact LoopK.code [some 0, some 1, some 2] c5 rfl rfl
  | some out2 => exact LoopK.code [some 0, some 1, some 2, some 3] c5 rfl rfl

theorem writtenI (l : List Int) (hl : l.length ≤ 1000000) (hv : ∀ x ∈ l, -32768 ≤ x ∧ x ≤ 32767) (N : Nat) (h18 : 18 ≤ N) (hN : N ≤ 65536) :
    ACalls Try.prog noG 14 [.lit (.int .i64 N), roI l, .lit (.func (.func 15) #[] #[])] [] (.tup [.bts (l.flatMap encI), .lit (.bool true)]) [] := by
  obtain ⟨o2, buf2, n2, c1, c2, c3, c4, c5⟩ := loopI l hl hv N h18 hN
  have nw := newWriter N h18 hN
  have d : (if (65536 : Int) < (if (0 : Int) > (N : Int) then (0 : Int) else (N : Int)) then (65536 : Int) else (if (0 : Int) > (N : Int) then (0 : Int) else (N : Int))) = N := by
    have h : ¬ (0 : Int) > (N : Int) := by omega
    rw [if_neg h, if_neg (by omega)]
  have hbo : N ≤ bigO := by simp [bigO]; omega
  have c6 := c5.slots (vals0 := [(2, .lit (.func (.func 15) #[] #[])), (9, .ptr 0 0), (8, .ptr 1 0), (17, roI l), (18, .lit (.int .i64 l.length)), (19, .lit (.int .i64 (0 : Int)))]) fun t a hm => by
    simp [slI] at hm ⊢; rcases hm with h | h | h | h | h | h <;> simp [h]
  cases o2 with
  | none =>
    rcases Nat.eq_zero_or_pos n2 with rfl | h0
    · have f := flushEndN0 N buf2
      have e := wiA N 0 buf2 l (by
        simp only [AllP, leAll, d]
        exact ⟨trivial, f, ⟨Le.refl _, trivial⟩, ⟨RowLe.refl _, RowLe.refl _, RowLe.refl _, trivial⟩, c6, ⟨Le.refl _, Le.refl _, Le.refl _, Le.refl _, Le.refl _, Le.refl _, trivial⟩, ⟨RowLe.refl _, RowLe.refl _, RowLe.refl _, trivial⟩,
          nw, ⟨Le.refl _, Le.refl _, trivial⟩, ⟨RowLe.refl _, trivial⟩, trivial⟩)
      have h3 : l.flatMap encI = [] := by rw [← c3]; simp [cont]
      rw [h3]
      exact e.le (leAll_refl _) (Le_nil_tup _) rfl
    · have f := flushEndN N n2 buf2 h0 c2 c1 hbo
      have e := wiB N n2 buf2 (buf2.take n2) l (by
        simp only [AllP, leAll, d]
        exact ⟨trivial, f, ⟨Le.refl _, trivial⟩, ⟨RowLe.refl _, RowLe.refl _, RowLe.refl _, trivial⟩, c6, ⟨Le.refl _, Le.refl _, Le.refl _, Le.refl _, Le.refl _, Le.refl _, trivial⟩, ⟨RowLe.refl _, RowLe.refl _, RowLe.refl _, trivial⟩,
          nw, ⟨Le.refl _, Le.refl _, trivial⟩, ⟨RowLe.refl _, trivial⟩, trivial⟩)
      have h2 := (e.freezeRet 0 rfl rfl).only [] (by rfl)
      rw [← c3]
      exact h2.cast rfl rfl (by simp [AV.frz, AV.frzL, frzOwn, AV.ren, AV.renL, cont, List.take_of_length_le]) rfl
  | some out2 =>
    have f := flushEndO N n2 buf2 out2 c2 c1 hbo c4
    have e := wiC N n2 buf2 out2 (out2 ++ buf2.take n2) l (by
      simp only [AllP, leAll, d]
      exact ⟨trivial, f, ⟨Le.refl _, trivial⟩, ⟨RowLe.refl _, RowLe.refl _, RowLe.refl _, RowLe.refl _, trivial⟩, c6, ⟨Le.refl _, Le.refl _, Le.refl _, Le.refl _, Le.refl _, Le.refl _, trivial⟩, ⟨RowLe.refl _, RowLe.refl _, RowLe.refl _, trivial⟩,
        nw, ⟨Le.refl _, Le.refl _, trivial⟩, ⟨RowLe.refl _, trivial⟩, trivial⟩)
    have h2 := (e.freezeRet 0 rfl rfl).only [] (by rfl)
    rw [← c3]
    exact h2.cast rfl rfl (by simp [AV.frz, AV.frzL, frzOwn, AV.ren, AV.renL, cont, List.take_of_length_le]) rfl

theorem streamI (l : List Int) (hl : l.length ≤ 1000000) (hv : ∀ x ∈ l, -32768 ≤ x ∧ x ≤ 32767) (N : Nat) (h18 : 18 ≤ N) (hN : N ≤ 65536) :
    ACalls Try.prog noG 8 [.lit (.int .i64 N), roI l] [] (.tup [.bts (l.flatMap encI), .lit (.bool true)]) [] :=
  si N (l.flatMap encI) l (by
    have := writtenI l hl hv N h18 hN
    simp only [AllP, leAll]
    exact ⟨this, ⟨Le.refl _, Le.refl _, Le.refl _, trivial⟩, trivial, trivial⟩)

end Go.Ax
