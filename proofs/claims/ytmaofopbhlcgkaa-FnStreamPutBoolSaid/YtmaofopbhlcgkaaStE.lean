/-
  The Go functions that laws.FnStreamPutBinHead reaches, each by a contract.
-/
import Derived.Test.YtmaofopbhlcgkaaStD
set_option linter.unusedVariables false
set_option linter.unusedSimpArgs false
set_option maxRecDepth 100000
namespace Go.Ax
open Go.Proofs

def elH (x : Nat) : AV := .lit (.int .u32 x)
def roH (l : List Nat) : AV := .ro 1 l.length (fun i => [.lit (.int .u32 ((l.getD i 0 : Nat) : Int))])
def slH (l : List Nat) (i : Nat) : List (Nat × AV) :=
  [(2, .lit (.func (.func 46) #[] #[])), (8, .ptr 1 0), (9, .ptr 0 0), (17, roH l), (18, .lit (.int .i64 l.length)), (19, .lit (.int .i64 i))]

theorem CodeC.slots {P : Program} {G : Env} {n : Nat} {c : Code} {vals vals0 vals' : List (Nat × AV)} {H H' : List Row} {ex : AExit} (h : CodeC P G n c vals H ex vals' H') (hs : ∀ t a, (t, a) ∈ vals → (t, a) ∈ vals0) : CodeC P G n c vals0 H ex vals' H' :=
  fun O ρ a w S hn hv => h O ρ a w S hn fun t av hm => hv t av (hs t av hm)

theorem getD_lt {l : List Nat} {i : Nat} (h : i < l.length) : l.getD i 0 = l[i] := by simp [h]

theorem bodyH_oo (l : List Nat) (hl : l.length ≤ 1000000) (i : Nat) (h : i < l.length) (N n : Nat) (buf out : List UInt8) (n2 : Nat) (buf2 out2 : List UInt8) (hc : ACalls Try.prog noG 46 [.ptr 0 0, elH l[i]] (rO N n buf out) nilE (rM N n2 buf2 out2)) :
    CodeC Try.prog noG 34 (loopAt Try.f45 0) (slH l i) (rO N n buf out) .normal (slH l (i + 1)) (rM N n2 buf2 out2) := by
  have w : IntKind.i64.wrap ((i : Int) + 1) = ((i + 1 : Nat) : Int) := by rw [wrap64 (by omega) (by omega)]; simp
  have e := lhoo N n n2 buf out buf2 out2 l i (by
    simp only [AllP, leAll, Int.toNat_natCast, getD_lt h]
    refine ⟨trivial, hc, ⟨Le.refl _, Le.refl _, trivial⟩, ⟨RowLe.refl _, RowLe.refl _, RowLe.refl _, RowLe.refl _, trivial⟩, ⟨by omega, by omega⟩, by simp; omega, trivial⟩)
  rw [w] at e
  exact e.slots fun t a hm => by simp [slH, roH] at hm ⊢; rcases hm with h | h | h | h | h | h <;> simp [h]
theorem bodyH_nn (l : List Nat) (hl : l.length ≤ 1000000) (i : Nat) (h : i < l.length) (N n : Nat) (buf : List UInt8) (n2 : Nat) (buf2 : List UInt8) (hc : ACalls Try.prog noG 46 [.ptr 0 0, elH l[i]] (rN N n buf) nilE (rN N n2 buf2)) :
    CodeC Try.prog noG 34 (loopAt Try.f45 0) (slH l i) (rN N n buf) .normal (slH l (i + 1)) (rN N n2 buf2) := by
  have w : IntKind.i64.wrap ((i : Int) + 1) = ((i + 1 : Nat) : Int) := by rw [wrap64 (by omega) (by omega)]; simp
  have e := lhnn N n n2 buf buf2 l i (by
    simp only [AllP, leAll, Int.toNat_natCast, getD_lt h]
    refine ⟨trivial, hc, ⟨Le.refl _, Le.refl _, trivial⟩, ⟨RowLe.refl _, RowLe.refl _, RowLe.refl _, trivial⟩, ⟨by omega, by omega⟩, by simp; omega, trivial⟩)
  rw [w] at e
  exact e.slots fun t a hm => by simp [slH, roH] at hm ⊢; rcases hm with h | h | h | h | h | h <;> simp [h]
theorem bodyH_no (l : List Nat) (hl : l.length ≤ 1000000) (i : Nat) (h : i < l.length) (N n : Nat) (buf : List UInt8) (n2 : Nat) (buf2 out2 : List UInt8) (hc : ACalls Try.prog noG 46 [.ptr 0 0, elH l[i]] (rN N n buf) nilE (rO N n2 buf2 out2)) :
    CodeC Try.prog noG 34 (loopAt Try.f45 0) (slH l i) (rN N n buf) .normal (slH l (i + 1)) (rO N n2 buf2 out2) := by
  have w : IntKind.i64.wrap ((i : Int) + 1) = ((i + 1 : Nat) : Int) := by rw [wrap64 (by omega) (by omega)]; simp
  have e := lhno N n n2 buf buf2 out2 l i (by
    simp only [AllP, leAll, Int.toNat_natCast, getD_lt h]
    refine ⟨trivial, hc, ⟨Le.refl _, Le.refl _, trivial⟩, ⟨RowLe.refl _, RowLe.refl _, RowLe.refl _, trivial⟩, ⟨by omega, by omega⟩, by simp; omega, trivial⟩)
  rw [w] at e
  exact e.slots fun t a hm => by simp [slH, roH] at hm ⊢; rcases hm with h | h | h | h | h | h <;> simp [h]
theorem exH_o (l : List Nat) (N n : Nat) (buf out : List UInt8) : CodeC Try.prog noG 34 (loopAt Try.f45 0) (slH l l.length) (rO N n buf out) (.exit 0) [(8, .ptr 1 0), (9, .ptr 0 0)] (rO N n buf out) :=
  (lhxo N n buf out l l.length (by simp [AllP])).slots fun t a hm => by simp [slH, roH] at hm ⊢; rcases hm with h | h | h | h | h | h <;> simp [h]
theorem exH_n (l : List Nat) (N n : Nat) (buf : List UInt8) : CodeC Try.prog noG 34 (loopAt Try.f45 0) (slH l l.length) (rN N n buf) (.exit 0) [(8, .ptr 1 0), (9, .ptr 0 0)] (rN N n buf) :=
  (lhxn N n buf l l.length (by simp [AllP])).slots fun t a hm => by simp [slH, roH] at hm ⊢; rcases hm with h | h | h | h | h | h <;> simp [h]

theorem headB_len (v : Nat) : (headB v).length ≤ 5 := by
  unfold headB
  split
  · simp
  · split <;> simp

theorem loopH (l : List Nat) (hl : l.length ≤ 1000000) (hv : ∀ x ∈ l, x < 4294967296) (N : Nat) (h18 : 18 ≤ N) (hN : N ≤ 65536) :
    ∃ o2 buf2 n2, buf2.length = N ∧ n2 ≤ N ∧ cont o2 buf2 n2 = l.flatMap headB ∧ (o2.getD []).length ≤ bigO ∧
      CodeC Try.prog noG 34 (.loop (loopAt Try.f45 0)) (slH l 0) (rN N 0 (List.replicate N 0)) (.exit 0) [(8, .ptr 1 0), (9, .ptr 0 0)] (rS N n2 buf2 o2) := by
  obtain ⟨o2, buf2, n2, c1, c2, c3, c4, c5⟩ := writtenN (l := l) (enc := headB) (g := 46) (el := elH) (K := 5) (sl := slH l) (fun x _ => headB_len x) (fun x hx => cloHead x (hv x hx)) (fun i => ⟨rfl, rfl, rfl⟩)
    (fun i h N n buf out n2 buf2 out2 hc => bodyH_oo l hl i h N n buf out n2 buf2 out2 hc) (fun N n buf out => exH_o l N n buf out) (fun i h N n buf n2 buf2 hc => bodyH_nn l hl i h N n buf n2 buf2 hc)
    (fun i h N n buf n2 buf2 out2 hc => bodyH_no l hl i h N n buf n2 buf2 out2 hc) (fun N n buf => exH_n l N n buf) l.length 0 (by omega) (Nat.zero_le _) N 0 (List.replicate N 0) h18 hN (by simp) (Nat.zero_le _) (by simp [bigO]; omega)
  refine ⟨o2, buf2, n2, c1, c2, by simpa using c3, c4, ?_⟩
  cases o2 with
  | none => exact LoopK.code [some 0, some 1, some 2] c5 rfl rfl
  | some out2 => exact LoopK.code [some 0, some 1, some 2, some 3] c5 rfl rfl

theorem Le_nil_tup (a : AV) : Le (.tup [.lit (.slice none 0 0), a]) (.tup [.bts [], a]) := fun ρ h O w v hv => by
  cases hv with
  | dr hd => cases hd
  | tup k1 k2 =>
    refine .tup k1 fun j c x hc hx => ?_
    match j with
    | 0 => simp at hc; subst hc; exact Le_nil _ _ _ _ _ (k2 0 _ x rfl hx)
    | 1 => simp at hc; subst hc; exact k2 1 _ x rfl hx
    | j + 2 => simp at hc

theorem writtenH (l : List Nat) (hl : l.length ≤ 1000000) (hv : ∀ x ∈ l, x < 4294967296) (N : Nat) (h18 : 18 ≤ N) (hN : N ≤ 65536) :
    ACalls Try.prog noG 45 [.lit (.int .i64 N), roH l, .lit (.func (.func 46) #[] #[])] [] (.tup [.bts (l.flatMap headB), .lit (.bool true)]) [] := by
  obtain ⟨o2, buf2, n2, c1, c2, c3, c4, c5⟩ := loopH l hl hv N h18 hN
  have nw := newWriter N h18 hN
  have d : (if (65536 : Int) < (if (0 : Int) > (N : Int) then (0 : Int) else (N : Int)) then (65536 : Int) else (if (0 : Int) > (N : Int) then (0 : Int) else (N : Int))) = N := by
    have h : ¬ (0 : Int) > (N : Int) := by omega
    rw [if_neg h, if_neg (by omega)]
  have hbo : N ≤ bigO := by simp [bigO]; omega
  have c6 := c5.slots (vals0 := [(2, .lit (.func (.func 46) #[] #[])), (9, .ptr 0 0), (8, .ptr 1 0), (17, roH l), (18, .lit (.int .i64 l.length)), (19, .lit (.int .i64 (0 : Int)))]) fun t a hm => by
    simp [slH] at hm ⊢; rcases hm with h | h | h | h | h | h <;> simp [h]
  cases o2 with
  | none =>
    rcases Nat.eq_zero_or_pos n2 with rfl | h0
    · have f := flushEndN0 N buf2
      have e := whA N 0 buf2 l (by
        simp only [AllP, leAll, d]
        exact ⟨trivial, f, ⟨Le.refl _, trivial⟩, ⟨RowLe.refl _, RowLe.refl _, RowLe.refl _, trivial⟩, c6, ⟨Le.refl _, Le.refl _, Le.refl _, Le.refl _, Le.refl _, Le.refl _, trivial⟩, ⟨RowLe.refl _, RowLe.refl _, RowLe.refl _, trivial⟩,
          nw, ⟨Le.refl _, Le.refl _, trivial⟩, ⟨RowLe.refl _, trivial⟩, trivial⟩)
      have h3 : l.flatMap headB = [] := by rw [← c3]; simp [cont]
      rw [h3]
      exact e.le (leAll_refl _) (Le_nil_tup _) rfl
    · have f := flushEndN N n2 buf2 h0 c2 c1 hbo
      have e := whB N n2 buf2 (buf2.take n2) l (by
        simp only [AllP, leAll, d]
        exact ⟨trivial, f, ⟨Le.refl _, trivial⟩, ⟨RowLe.refl _, RowLe.refl _, RowLe.refl _, trivial⟩, c6, ⟨Le.refl _, Le.refl _, Le.refl _, Le.refl _, Le.refl _, Le.refl _, trivial⟩, ⟨RowLe.refl _, RowLe.refl _, RowLe.refl _, trivial⟩,
          nw, ⟨Le.refl _, Le.refl _, trivial⟩, ⟨RowLe.refl _, trivial⟩, trivial⟩)
      have h2 := (e.freezeRet 0 rfl rfl).only [] (by rfl)
      rw [← c3]
      exact h2.cast rfl rfl (by simp [AV.frz, AV.frzL, frzOwn, AV.ren, AV.renL, cont, List.take_of_length_le]) rfl
  | some out2 =>
    have f := flushEndO N n2 buf2 out2 c2 c1 hbo c4
    have e := whC N n2 buf2 out2 (out2 ++ buf2.take n2) l (by
      simp only [AllP, leAll, d]
      exact ⟨trivial, f, ⟨Le.refl _, trivial⟩, ⟨RowLe.refl _, RowLe.refl _, RowLe.refl _, RowLe.refl _, trivial⟩, c6, ⟨Le.refl _, Le.refl _, Le.refl _, Le.refl _, Le.refl _, Le.refl _, trivial⟩, ⟨RowLe.refl _, RowLe.refl _, RowLe.refl _, trivial⟩,
        nw, ⟨Le.refl _, Le.refl _, trivial⟩, ⟨RowLe.refl _, trivial⟩, trivial⟩)
    have h2 := (e.freezeRet 0 rfl rfl).only [] (by rfl)
    rw [← c3]
    exact h2.cast rfl rfl (by simp [AV.frz, AV.frzL, frzOwn, AV.ren, AV.renL, cont, List.take_of_length_le]) rfl

theorem streamH (l : List Nat) (hl : l.length ≤ 1000000) (hv : ∀ x ∈ l, x < 4294967296) (N : Nat) (h18 : 18 ≤ N) (hN : N ≤ 65536) :
    ACalls Try.prog noG 28 [.lit (.int .i64 N), roH l] [] (.tup [.bts (l.flatMap headB), .lit (.bool true)]) [] :=
  sh N (l.flatMap headB) l (by
    have := writtenH l hl hv N h18 hN
    simp only [AllP, leAll]
    exact ⟨this, ⟨Le.refl _, Le.refl _, Le.refl _, trivial⟩, trivial, trivial⟩)

theorem takeHeadR (v : Nat) (hv : v < 4294967296) (r : List UInt8) : ACalls Try.prog noG 16 [.bts (headB v ++ r)] [] (.tup [.lit (.int .i64 7), .lit (.int .u64 v), .bts r, .lit (.bool true)]) [] := by
  have tk : ∀ (d : List UInt8), ((d.length : Int) + 1).toNat = d.length + 1 := fun d => by omega
  have t1 : ∀ (d : List UInt8), (1 : Int) ≤ (d.length : Int) + 1 := fun d => by omega
  have t2 : ∀ (d : List UInt8), (0 : Int) < (d.length : Int) + 1 := fun d => by omega
  have big : ∀ (d : List UInt8) (k n : Nat), d.length = k → k < 1000 → bigA 0 d = n → ACalls Try.prog noG 35 [.bts (d ++ r), .lit (.int .i64 k)] [] (.tup [.lit (.int .u64 n), .bts r, .lit (.bool true)]) [] := fun d k n h1 h2 h3 => by
    subst h1; subst h3
    exact (takeBig (d ++ r) d.length (by simp) h2).cast rfl rfl (by simp) rfl
  have ka : ∀ (d : List UInt8) n, ACalls Try.prog noG 35 [.bts d, .lit (.int .i64 1)] [] (.tup [.lit (.int .u64 n), .bts r, .lit (.bool true)]) [] → ACalls Try.prog noG 16 [.bts (196 :: d)] [] (.tup [.lit (.int .i64 7), .lit (.int .u64 n), .bts r, .lit (.bool true)]) [] :=
    fun d n h => k16a d r n (by simp [AllP, leAll, tk, t1, t2]; exact h)
  have kb : ∀ (d : List UInt8) n, ACalls Try.prog noG 35 [.bts d, .lit (.int .i64 2)] [] (.tup [.lit (.int .u64 n), .bts r, .lit (.bool true)]) [] → ACalls Try.prog noG 16 [.bts (197 :: d)] [] (.tup [.lit (.int .i64 7), .lit (.int .u64 n), .bts r, .lit (.bool true)]) [] :=
    fun d n h => k16b d r n (by simp [AllP, leAll, tk, t1, t2]; exact h)
  have kc : ∀ (d : List UInt8) n, ACalls Try.prog noG 35 [.bts d, .lit (.int .i64 4)] [] (.tup [.lit (.int .u64 n), .bts r, .lit (.bool true)]) [] → ACalls Try.prog noG 16 [.bts (198 :: d)] [] (.tup [.lit (.int .i64 7), .lit (.int .u64 n), .bts r, .lit (.bool true)]) [] :=
    fun d n h => k16c d r n (by simp [AllP, leAll, tk, t1, t2]; exact h)
  by_cases h1 : v ≤ 255
  · have hb : bigA 0 [UInt8.ofNat v] = v := by simp [bigA, UInt8.toNat_ofNat']; omega
    exact (ka _ _ (big [UInt8.ofNat v] 1 v rfl (by omega) hb)).cast (by simp [headB, h1]) rfl rfl rfl
  · by_cases h2 : v ≤ 65535
    · have hb : bigA 0 [UInt8.ofNat (v / 256), UInt8.ofNat (v % 256)] = v := by simp [bigA, UInt8.toNat_ofNat']; omega
      exact (kb _ _ (big [UInt8.ofNat (v / 256), UInt8.ofNat (v % 256)] 2 v rfl (by omega) hb)).cast (by simp [headB, h1, h2]) rfl rfl rfl
    · have hb : bigA 0 [UInt8.ofNat (v / 16777216), UInt8.ofNat (v / 65536 % 256), UInt8.ofNat (v / 256 % 256), UInt8.ofNat (v % 256)] = v := by simp [bigA, UInt8.toNat_ofNat']; omega
      exact (kc _ _ (big [UInt8.ofNat (v / 16777216), UInt8.ofNat (v / 65536 % 256), UInt8.ofNat (v / 256 % 256), UInt8.ofNat (v % 256)] 4 v rfl (by omega) hb)).cast (by simp [headB, h1, h2]) rfl rfl rfl

def slI (l : List Nat) (data : List UInt8) (i : Nat) : List (Nat × AV) :=
  [(0, .bts data), (1, .lit (.bool true)), (2, .lit (.int .i64 7)), (15, roH l), (16, .lit (.int .i64 l.length)), (17, .lit (.int .i64 i))]

theorem loopI (l : List Nat) (hl : l.length ≤ 1000000) (hv : ∀ x ∈ l, x < 4294967296) : ∀ (k i : Nat), l.length - i = k → i ≤ l.length →
    LoopC Try.prog noG 53 (loopAt Try.f29 0) (slI l ((l.drop i).flatMap headB) i) [] (.exit 0) [(0, .bts []), (1, .lit (.bool true))] []
  | 0, i, hk, hi => by
    have he : i = l.length := by omega
    subst he
    have := LoopC.exit (hx [] l l.length (by simp [AllP])) (by simp)
    simpa [slI, roH] using this
  | k + 1, i, hk, hi => by
    have hlt : i < l.length := by omega
    have w : IntKind.i64.wrap ((i : Int) + 1) = ((i + 1 : Nat) : Int) := by rw [wrap64 (by omega) (by omega)]; simp
    have hvi := hv l[i] (List.getElem_mem _)
    have w2 : IntKind.u64.wrap ((l[i] : Nat) : Int) = l[i] := by rw [wrapU64]; omega
    have t := takeHeadR l[i] hvi ((l.drop (i + 1)).flatMap headB)
    have hd : (l.drop i).flatMap headB = headB l[i] ++ (l.drop (i + 1)).flatMap headB := by rw [List.drop_eq_getElem_cons hlt, List.flatMap_cons]
    rw [← hd] at t
    have e := Go.Ax.hl ((l.drop i).flatMap headB) ((l.drop (i + 1)).flatMap headB) l i (by
      simp only [AllP, leAll, Int.toNat_natCast, getD_lt hlt, w2]
      refine ⟨by simp, trivial, trivial, trivial, trivial, trivial, trivial, trivial, trivial, trivial, t, ⟨Le.refl _, trivial⟩, trivial, ⟨by omega, by omega⟩, by simp; omega, trivial⟩)
    rw [w] at e
    exact LoopC.step e (loopI l hl hv k (i + 1) (by omega) (by omega))

theorem headsInOrder (l : List Nat) (hl : l.length ≤ 1000000) (hv : ∀ x ∈ l, x < 4294967296) : ACalls Try.prog noG 29 [.bts (l.flatMap headB), .lit (.bool true), .lit (.int .i64 7), roH l] [] (.lit (.bool true)) [] := by
  have c := (loopI l hl hv _ 0 rfl (Nat.zero_le _)).code
  simp only [List.drop_zero] at c
  refine (h29 (l.flatMap headB) l ?_).cast rfl rfl (by simp) rfl
  simp only [AllP, leAll]
  simp
  exact c
end Go.Ax
