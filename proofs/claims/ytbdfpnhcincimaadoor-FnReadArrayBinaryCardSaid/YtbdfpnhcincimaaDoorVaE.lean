/-
  Values of AMQP, written in chosen forms: the forms of numbers, of what has a length.
-/
import Derived.Test.YtbdfpnhcincimaaDoorVaC
import Derived.Test.YtbdfpnhcincimaaDoorBv
import Derived.Test.YtbdfpnhcincimaaDoorPk
import Derived.Test.YtbdfpnhcincimaaDoorW4a
set_option linter.unusedVariables false
set_option linter.unusedSimpArgs false
set_option maxRecDepth 100000
namespace Go.Ax
open Go.Proofs

section
variable {P : Program} {G : Env}

def DLe (a b : AV) : Prop := ∀ O w v, DR O w a v → DR O w b v
theorem DLe.refl (a : AV) : DLe a a := fun _ _ _ h => h
theorem DLe_take (x : List UInt8) : DLe (.bts ((x.drop 0).take x.length)) (.bts x) := by rw [List.drop_zero, List.take_length]; exact DLe.refl _
theorem DLe_nil : DLe (.lit (.slice none 0 0)) (.bts []) := fun O w v h => by cases h; exact .btsnil
def dleAll : List AV → List AV → Prop
  | [], [] => True
  | a :: xs, b :: ys => DLe a b ∧ dleAll xs ys
  | _, _ => False
theorem dleAll_spec : ∀ {xs ys : List AV}, dleAll xs ys → xs.length = ys.length ∧ ∀ (j : Nat) b, ys[j]? = some b → ∃ a, xs[j]? = some a ∧ DLe a b
  | [], [], _ => ⟨rfl, fun j b h => by simp at h⟩
  | a :: xs, b :: ys, h => by
    obtain ⟨l, q⟩ := dleAll_spec h.2
    refine ⟨by simp [l], fun j b' hb => ?_⟩
    cases j with
    | zero => simp at hb; subst hb; exact ⟨a, rfl, h.1⟩
    | succ j => simpa using q j b' (by simpa using hb)
  | [], _ :: _, h => h.elim
  | _ :: _, [], h => h.elim

theorem dleAll_refl : ∀ l, dleAll l l
  | [] => trivial
  | a :: l => ⟨DLe.refl a, dleAll_refl l⟩

theorem DLe_ro {sz n : Nat} {get get' : Nat → List AV} (h : ∀ i, i < n → dleAll (get i) (get' i)) : DLe (.ro sz n get) (.ro sz n get') := fun O w v hd => by
  cases hd with
  | ro val h1 h2 h3 h4 h5 h6 h7 =>
    refine .ro val h1 h2 h3 h4 (fun i hi => by rw [← (dleAll_spec (h i hi)).1]; exact h5 i hi) (fun i j c hi hc => ?_) (fun i j c hi hc => ?_)
    · obtain ⟨a, ha, _⟩ := (dleAll_spec (h i hi)).2 j c hc
      exact h6 i j a hi ha
    · obtain ⟨a, ha, hl⟩ := (dleAll_spec (h i hi)).2 j c hc
      exact hl _ _ _ (h7 i j a hi ha)
  | ronil => exact .ronil

theorem Le_of_DLe {sz n : Nat} {get get' : Nat → List AV} (h : DLe (.ro sz n get) (.ro sz n get')) : Le (.ro sz n get) (.ro sz n get') := fun ρ hp O w v hv => by
  cases hv with
  | dr hd => exact .dr (h _ _ _ hd)

theorem Le_ro' {sz n : Nat} {get get' : Nat → List AV} (h : ∀ i, i < n → dleAll (get i) (get' i)) : Le (.ro sz n get) (.ro sz n get') := Le_of_DLe (DLe_ro h)

/-- A row that comes out of a piece of code, by value. -/
theorem CodeC.freezeOut {n : Nat} {c : Code} {vals vals' : List (Nat × AV)} {H H' : List Row} {ex : AExit} (k : Nat) {r : Row} (h : CodeC P G n c vals H ex vals' H') (hk : H'[k]? = some r) (hc : canFrz r = true) :
    CodeC P G n c vals H ex (vals'.map fun x => (x.1, x.2.frz k r)) (frzH k r 0 H') := by
  intro O ρ a w S hn hv
  refine wp_mono (h O ρ a w S hn hv) fun e a' w' ⟨ρ', O', q1, q2, q3, q4, q5, q6⟩ => ?_
  obtain ⟨O1, S1, F1, V1⟩ := freeze q5 hk hc
  refine ⟨ρ', O1, q1, q2, q3, fun t av ht => ?_, S1, q6.trans F1⟩
  obtain ⟨⟨t0, a0⟩, hm, he⟩ := List.mem_map.1 ht
  simp only [Prod.mk.injEq] at he
  obtain ⟨rfl, rfl⟩ := he
  exact V1 _ _ (q4 t0 a0 hm)

/-- Some of the rows that come out. -/
theorem CodeC.only {n : Nat} {c : Code} {vals vals' : List (Nat × AV)} {H H' : List Row} {ex : AExit} (L : List Nat) (h : CodeC P G n c vals H ex vals' H') (hL' : finOk H.length L (hL H') = true) :
    CodeC P G n c vals H ex (renS (idxIn L 0) vals') (outRows L (hL H') L) := by
  intro O ρ a w S hn hv
  refine wp_mono (h O ρ a w S hn hv) fun e a' w' ⟨ρ', O', q1, q2, q3, q4, q5, q6⟩ => ?_
  obtain ⟨r1, r2, r3⟩ := fin_out rfl rfl hL' q5 q6
  refine ⟨_, O', q1, q2, q3, fun t av hm => ?_, r2, r3⟩
  obtain ⟨b, hb, rfl⟩ := renS_mem hm
  exact VR_ren r1 (q4 t b hb)
end

/-! ### Forms -/
/-- The code of a kind's full form. -/
def codeOf (k : Int) : Int := mgetI [(0, 64), (1, 86), (2, 80), (3, 96), (4, 112), (5, 128), (6, 81), (7, 97), (8, 113), (9, 129), (10, 114), (11, 130), (12, 116), (13, 132), (14, 148), (15, 115), (16, 131), (17, 152), (18, 176), (19, 177), (20, 179), (21, 208), (22, 209), (23, 240)] k 0
def widthOf (k : Int) : Int := mgetI [(2, 1), (3, 2), (4, 4), (5, 8), (6, 1), (7, 2), (8, 4), (9, 8), (10, 4), (11, 8), (12, 4), (13, 8), (14, 16), (15, 4), (16, 8), (17, 16)] k 0

theorem codedC (k : Int) : ACalls Tryd.prog noG 86 [.lit (.int .i64 k)] [] (.lit (.int .i64 (codeOf k))) [] := cdk k trivial

def NumK (k : Int) : Prop := 2 ≤ k ∧ k ≤ 16 ∧ k ≠ 14

theorem NumK.cases {k : Int} (h : NumK k) : k = 2 ∨ k = 3 ∨ k = 4 ∨ k = 5 ∨ k = 6 ∨ k = 7 ∨ k = 8 ∨ k = 9 ∨ k = 10 ∨ k = 11 ∨ k = 12 ∨ k = 13 ∨ k = 15 ∨ k = 16 := by
  obtain ⟨a, b, c⟩ := h; omega

theorem width_num {k : Int} (h : NumK k) : widthOf k = 1 ∨ widthOf k = 2 ∨ widthOf k = 4 ∨ widthOf k = 8 := by
  rcases h.cases with rfl | rfl | rfl | rfl | rfl | rfl | rfl | rfl | rfl | rfl | rfl | rfl | rfl | rfl <;> decide

theorem fixedN {k : Int} (h : NumK k) : ACalls Tryd.prog noG 112 [.lit (.int .i64 k)] [] (.lit (.int .i64 (widthOf k))) [] := by
  have w : IntKind.i64.wrap (widthOf k) = widthOf k := by
    rcases width_num h with e | e | e | e <;> rw [e] <;> decide
  obtain ⟨a, b, c⟩ := h
  exact (fsk k ⟨by omega, trivial⟩).cast rfl rfl (by rw [show mgetI _ k 0 = widthOf k from rfl, w]) rfl

/-- A number in so many bytes. -/
def beL (u : Int) (z : Int) : List UInt8 :=
  if z = 1 then [byteI u] else if z = 2 then [byteI (u.fdiv 256), byteI u] else if z = 4 then [byteI (u.fdiv 16777216), byteI (u.fdiv 65536), byteI (u.fdiv 256), byteI u] else
    [byteI (u.fdiv 72057594037927936), byteI (u.fdiv 281474976710656), byteI (u.fdiv 1099511627776), byteI (u.fdiv 4294967296), byteI (u.fdiv 16777216), byteI (u.fdiv 65536), byteI (u.fdiv 256), byteI u]

theorem beL_len (u : Int) {z : Int} (h : z = 1 ∨ z = 2 ∨ z = 4 ∨ z = 8) : ((beL u z).length : Int) = z := by
  rcases h with rfl | rfl | rfl | rfl <;> simp [beL]
theorem beL_le (u z : Int) : (beL u z).length ≤ 8 := by
  unfold beL; repeat' split
  all_goals simp

theorem bigC (u : Int) {z : Int} (h : z = 1 ∨ z = 2 ∨ z = 4 ∨ z = 8) : ACalls Tryd.prog noG 110 [.lit (.int .u64 u), .lit (.int .i64 z)] [] (.own 0 0 (beL u z).length none) [.bytes 5 (beL u z)] := by
  rcases h with rfl | rfl | rfl | rfl
  · exact (bg1 u trivial).cast rfl rfl (by simp [beL]) (by simp [beL])
  · exact (bg2 u trivial).cast rfl rfl (by simp [beL]) (by simp [beL])
  · exact (bg4 u trivial).cast rfl rfl (by simp [beL]) (by simp [beL])
  · exact (bg8 u trivial).cast rfl rfl (by simp [beL]) (by simp [beL])

/-- Forms of a value, by value: codes and bytes. -/
def pL (l : List (Int × List UInt8)) : AV := .ro 2 l.length (fun i => [.lit (.int .i64 (l.getD i (0, [])).1), .bts (l.getD i (0, [])).2])

section
variable {fn : FuncId} {args : List AV} {cap : Option Nat}
theorem fz1 {c : Int} {x : List UInt8} (h : ACalls Tryd.prog noG fn args [] (.own 0 0 1 cap) [.cells 106 2 [.lit (.int .i64 c), .own 1 0 x.length none], .bytes 5 x]) : ACalls Tryd.prog noG fn args [] (pL [(c, x)]) [] := by
  have a := ((h.freezeRet 1 rfl rfl).freezeRet 0 rfl rfl).only [] rfl
  refine a.le (leAll_refl _) (Le_ro' fun i hi => ?_) rfl
  obtain rfl : i = 0 := by omega
  exact ⟨DLe.refl _, DLe_take _, trivial⟩
theorem fz2 {c c2 : Int} {x x2 : List UInt8} (h : ACalls Tryd.prog noG fn args [] (.own 0 0 2 cap) [.cells 106 2 [.lit (.int .i64 c), .own 1 0 x.length none, .lit (.int .i64 c2), .own 2 0 x2.length none], .bytes 5 x, .bytes 5 x2]) :
    ACalls Tryd.prog noG fn args [] (pL [(c, x), (c2, x2)]) [] := by
  have a := (((h.freezeRet 1 rfl rfl).freezeRet 2 rfl rfl).freezeRet 0 rfl rfl).only [] rfl
  refine a.le (leAll_refl _) (Le_ro' fun i hi => ?_) rfl
  rcases (show i = 0 ∨ i = 1 by omega) with rfl | rfl
  · exact ⟨DLe.refl _, DLe_take _, trivial⟩
  · exact ⟨DLe.refl _, DLe_take _, trivial⟩
theorem fz3 {c c2 c3 : Int} {x x2 : List UInt8} (h : ACalls Tryd.prog noG fn args [] (.own 0 0 3 cap) [.cells 106 2 [.lit (.int .i64 c), .lit (.slice none 0 0), .lit (.int .i64 c2), .own 1 0 x.length none, .lit (.int .i64 c3), .own 2 0 x2.length none], .bytes 5 x, .bytes 5 x2]) :
    ACalls Tryd.prog noG fn args [] (pL [(c, []), (c2, x), (c3, x2)]) [] := by
  have a := (((h.freezeRet 1 rfl rfl).freezeRet 2 rfl rfl).freezeRet 0 rfl rfl).only [] rfl
  refine a.le (leAll_refl _) (Le_ro' fun i hi => ?_) rfl
  rcases (show i = 0 ∨ i = 1 ∨ i = 2 by omega) with rfl | rfl | rfl
  · exact ⟨DLe.refl _, DLe_nil, trivial⟩
  · exact ⟨DLe.refl _, DLe_take _, trivial⟩
  · exact ⟨DLe.refl _, DLe_take _, trivial⟩
end

/-- A form of a number. -/
def NumF (k u c : Int) (x : List UInt8) : Prop :=
  (c = codeOf k ∧ x = beL u (widthOf k)) ∨ (k = 4 ∧ u < 256 ∧ c = 82 ∧ x = [byteI u]) ∨ (k = 5 ∧ u < 256 ∧ c = 83 ∧ x = [byteI u]) ∨ (k = 4 ∧ u = 0 ∧ c = 67 ∧ x = []) ∨ (k = 5 ∧ u = 0 ∧ c = 68 ∧ x = []) ∨
  (k = 8 ∧ (-128 ≤ IntKind.i64.wrap u ∧ IntKind.i64.wrap u < 128) ∧ c = 84 ∧ x = [byteI u]) ∨ (k = 9 ∧ (-128 ≤ IntKind.i64.wrap u ∧ IntKind.i64.wrap u < 128) ∧ c = 85 ∧ x = [byteI u])

theorem numberedC {k : Int} (hk : NumK k) (u : Int) (h0 : 0 ≤ u) (t : ByteArray) (n : Nat) (f : Nat → ValT) (o : Int) (d : Nat) (g : Nat → ValT) :
    ∃ l, l.length ≤ 3 ∧ (∀ q ∈ l, NumF k u q.1 q.2) ∧ (codeOf k, beL u (widthOf k)) ∈ l ∧ ACalls Tryd.prog noG 89 [.agg (vmk k u t n f o d g)] [] (pL l) [] := by
  have b := bigC u (width_num hk)
  have b1 := bigC u (z := 1) (.inl rfl)
  have cc := codedC k
  have ff := fixedN hk
  by_cases k4 : k = 4
  · subst k4
    by_cases hs : u < 256
    · by_cases hz : u = 0
      · exact ⟨_, by simp, fun q hq => by
          simp only [List.mem_cons, List.not_mem_nil, or_false] at hq
          rcases hq with rfl | rfl | rfl
          · exact .inr (.inr (.inr (.inl ⟨rfl, hz, rfl, rfl⟩)))
          · exact .inr (.inl ⟨rfl, hs, rfl, rfl⟩)
          · exact .inl ⟨rfl, rfl⟩,
          by simp [codeOf, mgetI], fz3 (nb4c u t n f o d g _ _ ⟨hz, b1, hs, b, ff, cc, trivial⟩)⟩
      · exact ⟨_, by simp, fun q hq => by
          simp only [List.mem_cons, List.not_mem_nil, or_false] at hq
          rcases hq with rfl | rfl
          · exact .inr (.inl ⟨rfl, hs, rfl, rfl⟩)
          · exact .inl ⟨rfl, rfl⟩,
          by simp [codeOf, mgetI], fz2 (nb4b u t n f o d g _ _ ⟨hz, b1, hs, b, ff, cc, trivial⟩)⟩
    · exact ⟨_, by simp, fun q hq => by
          simp only [List.mem_cons, List.not_mem_nil, or_false] at hq
          rcases hq with rfl
          · exact .inl ⟨rfl, rfl⟩,
          by simp [codeOf, mgetI], fz1 (nb4a u t n f o d g _ ⟨by omega, by omega, b, ff, cc, trivial⟩)⟩
  by_cases k5 : k = 5
  · subst k5
    by_cases hs : u < 256
    · by_cases hz : u = 0
      · exact ⟨_, by simp, fun q hq => by
          simp only [List.mem_cons, List.not_mem_nil, or_false] at hq
          rcases hq with rfl | rfl | rfl
          · exact .inr (.inr (.inr (.inr (.inl ⟨rfl, hz, rfl, rfl⟩))))
          · exact .inr (.inr (.inl ⟨rfl, hs, rfl, rfl⟩))
          · exact .inl ⟨rfl, rfl⟩,
          by simp [codeOf, mgetI], fz3 (nb5c u t n f o d g _ _ ⟨hz, b1, hs, b, ff, cc, trivial⟩)⟩
      · exact ⟨_, by simp, fun q hq => by
          simp only [List.mem_cons, List.not_mem_nil, or_false] at hq
          rcases hq with rfl | rfl
          · exact .inr (.inr (.inl ⟨rfl, hs, rfl, rfl⟩))
          · exact .inl ⟨rfl, rfl⟩,
          by simp [codeOf, mgetI], fz2 (nb5b u t n f o d g _ _ ⟨hz, b1, hs, b, ff, cc, trivial⟩)⟩
    · exact ⟨_, by simp, fun q hq => by
          simp only [List.mem_cons, List.not_mem_nil, or_false] at hq
          rcases hq with rfl
          · exact .inl ⟨rfl, rfl⟩,
          by simp [codeOf, mgetI], fz1 (nb5a u t n f o d g _ ⟨by omega, by omega, b, ff, cc, trivial⟩)⟩
  by_cases k8 : k = 8
  · subst k8
    by_cases hs : -128 ≤ IntKind.i64.wrap u ∧ IntKind.i64.wrap u < 128
    · exact ⟨_, by simp, fun q hq => by
          simp only [List.mem_cons, List.not_mem_nil, or_false] at hq
          rcases hq with rfl | rfl
          · exact .inr (.inr (.inr (.inr (.inr (.inl ⟨rfl, hs, rfl, rfl⟩)))))
          · exact .inl ⟨rfl, rfl⟩,
          by simp [codeOf, mgetI], fz2 (nb8b u t n f o d g _ _ ⟨b1, hs, b, ff, cc, trivial⟩)⟩
    · exact ⟨_, by simp, fun q hq => by
          simp only [List.mem_cons, List.not_mem_nil, or_false] at hq
          rcases hq with rfl
          · exact .inl ⟨rfl, rfl⟩,
          by simp [codeOf, mgetI], fz1 (nb8a u t n f o d g _ ⟨by omega, b, ff, cc, trivial⟩)⟩
  by_cases k9 : k = 9
  · subst k9
    by_cases hs : -128 ≤ IntKind.i64.wrap u ∧ IntKind.i64.wrap u < 128
    · exact ⟨_, by simp, fun q hq => by
          simp only [List.mem_cons, List.not_mem_nil, or_false] at hq
          rcases hq with rfl | rfl
          · exact .inr (.inr (.inr (.inr (.inr (.inr ⟨rfl, hs, rfl, rfl⟩)))))
          · exact .inl ⟨rfl, rfl⟩,
          by simp [codeOf, mgetI], fz2 (nb9b u t n f o d g _ _ ⟨b1, hs, b, ff, cc, trivial⟩)⟩
    · exact ⟨_, by simp, fun q hq => by
          simp only [List.mem_cons, List.not_mem_nil, or_false] at hq
          rcases hq with rfl
          · exact .inl ⟨rfl, rfl⟩,
          by simp [codeOf, mgetI], fz1 (nb9a u t n f o d g _ ⟨by omega, b, ff, cc, trivial⟩)⟩
  exact ⟨_, by simp, fun q hq => by
          simp only [List.mem_cons, List.not_mem_nil, or_false] at hq
          rcases hq with rfl
          · exact .inl ⟨rfl, rfl⟩,
    by simp, fz1 (nb0 k u t n f o d g _ _ _ ⟨k9, k8, k5, k4, b, ff, cc, trivial⟩)⟩

theorem wu (n : Nat) (h : n ≤ 140737488355328) : IntKind.u64.wrap (n : Int) = n := w64u _ (by omega) (by omega)

/-- What stands behind its length. -/
theorem lengthedA (s l : Int) (x : List UInt8) (hx : x.length ≤ 4000000000) : ∃ q, q.length ≤ 2 ∧ (∀ p ∈ q, (p = (s, byteI x.length :: x) ∧ x.length ≤ 255) ∨ p = (l, beL x.length 4 ++ x)) ∧ (l, beL x.length 4 ++ x) ∈ q ∧
    ACalls Tryd.prog noG 87 [.lit (.int .i64 s), .lit (.int .i64 l), .bts x, .lit (.int .i64 (-1))] [] (pL q) [] := by
  have b1 := bigC (IntKind.u64.wrap x.length) (z := 1) (.inl rfl)
  have b4 := bigC (IntKind.u64.wrap x.length) (z := 4) (.inr (.inr (.inl rfl)))
  have w := wu x.length (by omega)
  have l4 := beL_len (IntKind.u64.wrap x.length) (z := 4) (.inr (.inr (.inl rfl)))
  have l1 := beL_len (IntKind.u64.wrap x.length) (z := 1) (.inl rfl)
  by_cases h : x.length ≤ 255
  · refine ⟨[(s, byteI x.length :: x), (l, beL x.length 4 ++ x)], by simp, by simp <;> omega, by simp, fz2 ((lgA s l x _ _ ⟨by omega, by omega, b4, by omega, by omega, b1, by omega, trivial⟩).cast rfl rfl rfl ?_)⟩
    rw [w]
    simp [beL] <;> omega
  · refine ⟨[(l, beL x.length 4 ++ x)], by simp, by simp, by simp, fz1 ((lgB s l x _ ⟨by omega, by omega, b4, by omega, trivial⟩).cast rfl rfl rfl ?_)⟩
    rw [w]
    simp [beL] <;> omega

/-- What stands behind its length and a count. -/
theorem lengthedB (s l : Int) (n : Nat) (x : List UInt8) (hx : x.length ≤ 4000000000) (hn : n ≤ 1000000) :
    ∃ q, q.length ≤ 2 ∧ (∀ p ∈ q, (p = (s, byteI (x.length + 1) :: byteI n :: x) ∧ x.length + 1 ≤ 255 ∧ n ≤ 255) ∨ p = (l, beL (x.length + 4) 4 ++ (beL n 4 ++ x))) ∧ (l, beL (x.length + 4) 4 ++ (beL n 4 ++ x)) ∈ q ∧
    ACalls Tryd.prog noG 87 [.lit (.int .i64 s), .lit (.int .i64 l), .bts x, .lit (.int .i64 n)] [] (pL q) [] := by
  have e1 : IntKind.i64.wrap ((x.length : Int) + 1) = (x.length : Int) + 1 := wrap64 (by omega) (by omega)
  have e4 : IntKind.i64.wrap ((x.length : Int) + 4) = (x.length : Int) + 4 := wrap64 (by omega) (by omega)
  have w1 : IntKind.u64.wrap ((x.length : Int) + 1) = (x.length : Int) + 1 := w64u _ (by omega) (by omega)
  have w4 : IntKind.u64.wrap ((x.length : Int) + 4) = (x.length : Int) + 4 := w64u _ (by omega) (by omega)
  have wn := wu n (by omega)
  have bn1 := bigC (IntKind.u64.wrap n) (z := 1) (.inl rfl)
  have bn4 := bigC (IntKind.u64.wrap n) (z := 4) (.inr (.inr (.inl rfl)))
  have b1 := bigC (IntKind.u64.wrap (IntKind.i64.wrap ((x.length : Int) + 1))) (z := 1) (.inl rfl)
  have b4 := bigC (IntKind.u64.wrap (IntKind.i64.wrap ((x.length : Int) + 4))) (z := 4) (.inr (.inr (.inl rfl)))
  have q1 := beL_len (IntKind.u64.wrap n) (z := 1) (.inl rfl)
  have q2 := beL_len (IntKind.u64.wrap n) (z := 4) (.inr (.inr (.inl rfl)))
  have q3 := beL_len (IntKind.u64.wrap (IntKind.i64.wrap ((x.length : Int) + 1))) (z := 1) (.inl rfl)
  have q4 := beL_len (IntKind.u64.wrap (IntKind.i64.wrap ((x.length : Int) + 4))) (z := 4) (.inr (.inr (.inl rfl)))
  by_cases hc : n ≤ 255
  · by_cases h : x.length + 1 ≤ 255
    · refine ⟨[(s, byteI (x.length + 1) :: byteI n :: x), (l, beL (x.length + 4) 4 ++ (beL n 4 ++ x))], by simp, by simp <;> omega, by simp, fz2 ((lgC s l n x (beL (IntKind.u64.wrap n) 1) (beL (IntKind.u64.wrap (IntKind.i64.wrap ((x.length : Int) + 1))) 1) (beL (IntKind.u64.wrap n) 4) (beL (IntKind.u64.wrap (IntKind.i64.wrap ((x.length : Int) + 4))) 4) ?_).cast rfl rfl rfl ?_)⟩
      · simp only [AllP]; repeat' (first | with_reducible apply And.intro | assumption | exact trivial | omega)
      · rw [e1, e4, w1, w4, wn]
        simp [beL] <;> omega
    · refine ⟨[(l, beL (x.length + 4) 4 ++ (beL n 4 ++ x))], by simp, by simp, by simp, fz1 ((lgE s l n x (beL (IntKind.u64.wrap n) 1) (beL (IntKind.u64.wrap n) 4) (beL (IntKind.u64.wrap (IntKind.i64.wrap ((x.length : Int) + 4))) 4) ?_).cast rfl rfl rfl ?_)⟩
      · simp only [AllP]; repeat' (first | with_reducible apply And.intro | assumption | exact trivial | omega)
      · rw [e4, w4, wn]
        simp [beL] <;> omega
  · refine ⟨[(l, beL (x.length + 4) 4 ++ (beL n 4 ++ x))], by simp, by simp, by simp, fz1 ((lgD s l n x (beL (IntKind.u64.wrap n) 4) (beL (IntKind.u64.wrap (IntKind.i64.wrap ((x.length : Int) + 4))) 4) ?_).cast rfl rfl rfl ?_)⟩
    · simp only [AllP]; repeat' (first | with_reducible apply And.intro | assumption | exact trivial | omega)
    · rw [e4, w4, wn]
      simp [beL] <;> omega
end Go.Ax
