/-
  Values of AMQP, written in chosen forms: what a form of a value is; the values in one, one behind the other; arrays.
-/
import Derived.Test.YtbdfpnhcincimaaDoorVaH
set_option linter.unusedVariables false
set_option linter.unusedSimpArgs false
set_option maxRecDepth 100000
set_option maxHeartbeats 1000000
namespace Go.Ax
open Go.Proofs

/-- What stands behind its length. -/
def LenF (s l : Int) (d : List UInt8) (c : Int) (x : List UInt8) : Prop := (c = s ∧ x = byteI d.length :: d ∧ d.length ≤ 255) ∨ (c = l ∧ x = beL d.length 4 ++ d)
/-- What stands behind its length and a count. -/
def CntF (s l : Int) (n : Nat) (d : List UInt8) (c : Int) (x : List UInt8) : Prop :=
  (c = s ∧ x = byteI (d.length + 1) :: byteI n :: d ∧ d.length + 1 ≤ 255 ∧ n ≤ 255) ∨ (c = l ∧ x = beL (d.length + 4) 4 ++ (beL n 4 ++ d))

/-- A form of a value that has none in it. -/
def LeafF (k u : Int) (t : ByteArray) (c : Int) (x : List UInt8) : Prop :=
  (k = 0 ∧ c = 64 ∧ x = []) ∨ (k = 1 ∧ ((c = 66 - u ∧ x = []) ∨ (c = 86 ∧ x = [byteI u]))) ∨ (NumK k ∧ NumF k u c x) ∨ ((k = 14 ∨ k = 17) ∧ c = codeOf k ∧ x = t.data.toList) ∨
  (k = 18 ∧ LenF 160 176 t.data.toList c x) ∨ (k = 19 ∧ LenF 161 177 t.data.toList c x) ∨ (k = 20 ∧ LenF 163 179 t.data.toList c x)

/-- How long what is written of a value is at most. -/
def ValT.bd : ValT → Nat
  | .nul => 30
  | .mk k u t n f o d g => 30 + t.size + sumN (fun i => (f i).bd) 0 n + sumN (fun i => (g i).bd) 0 d
def ValT.pb (p : ValT) : Nat := 20 + p.text.size + sumN (fun i => (p.kidf i).bd) 0 p.n

theorem sumN_ge {g : Nat → Nat} : ∀ (m i j : Nat), i ≤ j → j < i + m → g j ≤ sumN g i m
  | 0, i, j, h1, h2 => by omega
  | m + 1, i, j, h1, h2 => by
    simp only [sumN]
    by_cases h : j = i
    · subst h; omega
    · have := sumN_ge (g := g) m (i + 1) j (by omega) (by omega); omega

theorem sumN_mono {g g' : Nat → Nat} : ∀ (m i : Nat), (∀ j, i ≤ j → j < i + m → g j ≤ g' j) → sumN g i m ≤ sumN g' i m
  | 0, i, h => Nat.le_refl _
  | m + 1, i, h => by
    simp only [sumN]
    have := sumN_mono (g := g) (g' := g') m (i + 1) (fun j h1 h2 => h j (by omega) (by omega))
    have := h i (by omega) (by omega)
    omega

theorem pb_le : ∀ p : ValT, p.pb + 10 + sumN (fun i => (p.dscf i).bd) 0 p.nd ≤ p.bd
  | .nul => by show 20 + ByteArray.empty.size + sumN _ 0 0 + 10 + sumN _ 0 0 ≤ 30; simp [sumN]
  | .mk k u t n f o d g => by show 20 + t.size + sumN (fun i => (f i).bd) 0 n + 10 + sumN (fun i => (g i).bd) 0 d ≤ 30 + t.size + sumN (fun i => (f i).bd) 0 n + sumN (fun i => (g i).bd) 0 d; omega

def arrOf (n : Nat) (f : Nat → ValT) (o : Int) : Int := if 0 < n then (f 0).kind else o

/-- What stands in an array: a constructor, the values. -/
def ArrF (n : Nat) (f : Nat → ValT) (o : Int) (b : List UInt8) : Prop :=
  (0 < n ∧ 0 < (f 0).nd ∧ ∃ r, b = 0 :: r) ∨
  (¬ (0 < n ∧ 0 < (f 0).nd) ∧ ∃ (c : Int) (X : List UInt8), b = byteI c :: X ∧ ElsF n (arrOf n f o) (fun i => (f i).pb) (fun i c x => (f i).kind ≤ 20 → LeafF (f i).kind (f i).num (f i).text c x) c X)

/-- A form of a value without its descriptor. -/
def PieceF (k u : Int) (t : ByteArray) (n : Nat) (f : Nat → ValT) (o : Int) (c : Int) (x : List UInt8) : Prop :=
  0 < c ∧ c < 256 ∧ (k ≤ 20 → LeafF k u t c x) ∧ (k = 21 → c = 69 ∨ c = 192 ∨ c = 208) ∧ (k = 22 → ∃ d, d.length ≤ 1000000000 ∧ n ≤ d.length ∧ CntF 193 209 n d c x) ∧
  (k = 23 → ∃ b, b.length ≤ 1000000000 ∧ ArrF n f o b ∧ CntF 224 240 n b c x)

/-- What is written of a value. -/
def OutF (p : ValT) (y : List UInt8) : Prop := y.length ≤ p.bd ∧ 0 < y.length ∧ (p.nd = 0 → ∃ c x, y = byteI c :: x ∧ PieceF p.kind p.num p.text p.n p.kidf p.kof c x)

def PutOK (sh : Bool) (p : ValT) : Prop := ∀ st : Int, ∃ (y : List UInt8) (st' : Int), OutF p y ∧ ACalls Tryd.prog noG 21 [vAV p, .ptr 0 0] [FR st sh] (.own 1 0 y.length none) [FR st' sh, .bytes 5 y]
def FormsOK (sh : Bool) (p : ValT) : Prop := ∀ (st : Int) (d : Nat) (g : Nat → ValT), ∃ (ps : List (Int × List UInt8)) (st' : Int), ps.length ≤ 1000 ∧
  (∀ q ∈ ps, PieceF p.kind p.num p.text p.n p.kidf p.kof q.1 q.2 ∧ q.2.length + 1 ≤ p.pb) ∧ (∃ q ∈ ps, q.1 = codeOf p.kind) ∧
  ACalls Tryd.prog noG 56 [.ptr 0 0, .agg (vmk p.kind p.num p.text p.n p.kidf p.kof d g)] [FR st sh] (pL ps) [FR st' sh]

/-! ### The values in one -/
theorem kidsK (k u : Int) (t : ByteArray) (n : Nat) (f : Nat → ValT) (o : Int) (d : Nat) (g : Nat → ValT) (sh : Bool) (hn : n ≤ 1000000) (ih : ∀ i, i < n → PutOK sh (f i)) :
    ∀ (m i : Nat), n - i = m → i ≤ n → ∀ (st : Int) (x : List UInt8), x.length + sumN (fun i => (f i).bd) i m ≤ 70368744177664 →
      ∃ (X : List UInt8) (st' : Int), X.length ≤ sumN (fun i => (f i).bd) i m ∧ m ≤ X.length ∧ LoopK Tryd.prog noG 2 102 (loopAt Tryd.f56 0)
        [(0, .ptr 0 0), (3, .ptr 1 0), (5, .own 2 0 x.length none), (61, .ro 6 n (fun i => vcl (f i))), (62, .lit (.int .i64 n)), (63, .lit (.int .i64 i))] [FR st sh, .cells 25 6 (vmk k u t n f o d g), .bytes 5 x]
        (.exit 1) [(0, .ptr 0 0), (3, .ptr 1 0), (5, .own 2 0 (x ++ X).length none)] [FR st' sh, .cells 25 6 (vmk k u t n f o d g), .bytes 5 (x ++ X)]
  | 0, i, hm, hi, st, x, hx => by
    have hd : decide ((i : Int) < n) = false := by simp; omega
    refine ⟨[], st, by simp, by simp, ?_⟩
    rw [List.append_nil]
    exact LoopK.exit (plx k u t n f o d g st sh i x ⟨hd, trivial⟩) (by simp)
  | m + 1, i, hm, hi, st, x, hx => by
    have hlt : i < n := by omega
    have hd : decide ((i : Int) < n) = true := by simp; omega
    have hb : (0 : Int) ≤ i ∧ (i : Int) < n := by omega
    have w := wrapI i (by omega)
    have e2 : sumN (fun i => (f i).bd) i (m + 1) = (f i).bd + sumN (fun i => (f i).bd) (i + 1) m := rfl
    rw [e2] at hx
    obtain ⟨y, st1, ⟨hy, hy0, _⟩, hc⟩ := ih i hlt st
    have stp := plb k u t n f o d g st sh st1 i y x (by
      simp only [AllP]
      repeat' (first | exact trivial | with_reducible apply And.intro | exact hc | (simp only [Int.toNat_natCast]; exact leAll_refl _) | assumption | (simp; omega) | omega))
    rw [w] at stp
    simp only [List.drop_zero, List.take_length] at stp
    rw [← List.length_append] at stp
    obtain ⟨X, st', h1, h0, h2⟩ := kidsK k u t n f o d g sh hn ih m (i + 1) (by omega) (by omega) st1 (x ++ y) (by rw [List.length_append]; omega)
    refine ⟨y ++ X, st', by rw [List.length_append, e2]; omega, by rw [List.length_append]; omega, ?_⟩
    rw [← List.append_assoc]
    exact LoopK.step [some 0, some 1, some 3] stp rfl h2

theorem kidsC (k u : Int) (t : ByteArray) (n : Nat) (f : Nat → ValT) (o : Int) (d : Nat) (g : Nat → ValT) (sh : Bool) (hn : n ≤ 1000000) (h0 : 0 < n) (ih : ∀ i, i < n → PutOK sh (f i)) (st : Int) (hB : sumN (fun i => (f i).bd) 0 n ≤ 70368744177664) :
    ∃ (X : List UInt8) (st' : Int), X.length ≤ sumN (fun i => (f i).bd) 0 n ∧ n ≤ X.length ∧ CodeC Tryd.prog noG 102 (.loop (loopAt Tryd.f56 0))
        [(0, .ptr 0 0), (3, .ptr 1 0), (5, .lit (.slice none 0 0)), (61, .ro 6 n (fun i => vcl (f i))), (62, .lit (.int .i64 n)), (63, .lit (.int .i64 0))] [FR st sh, .cells 25 6 (vmk k u t n f o d g)]
        (.exit 1) [(0, .ptr 0 0), (3, .ptr 1 0), (5, .own 2 0 X.length none)] [FR st' sh, .cells 25 6 (vmk k u t n f o d g), .bytes 5 X] := by
  obtain ⟨m, rfl⟩ : ∃ m, n = m + 1 := ⟨n - 1, by omega⟩
  have e2 : sumN (fun i => (f i).bd) 0 (m + 1) = (f 0).bd + sumN (fun i => (f i).bd) 1 m := rfl
  rw [e2] at hB
  obtain ⟨y, st1, ⟨hy, hy0, _⟩, hc⟩ := ih 0 h0 st
  have stp := pla k u t (m + 1) f o d g st sh st1 0 y (by
    simp only [AllP]
    repeat' (first | exact trivial | with_reducible apply And.intro | exact hc | (simp only [Int.toNat_natCast]; exact leAll_refl _) | assumption | (simp; done) | (simp; omega) | omega))
  rw [wrapI 0 (by omega)] at stp
  simp only [List.drop_zero, List.take_length] at stp
  obtain ⟨X, st', h1, h3, h2⟩ := kidsK k u t (m + 1) f o d g sh hn ih m 1 (by omega) (by omega) st1 y (by omega)
  refine ⟨y ++ X, st', by rw [List.length_append, e2]; omega, by rw [List.length_append]; omega, ?_⟩
  have a := LoopK.step [some 0, some 1, some 2] stp rfl h2
  exact (LoopK.code [some 0, some 1, some 2] a rfl rfl).cast rfl rfl rfl rfl

/-- What stands behind its length and a count, of bytes that the caller owns. -/
theorem lengthedO (s l : Int) (n : Nat) (x : List UInt8) (hx : x.length ≤ 1000000000) (hn : n ≤ 1000000) :
    ∃ q, q.length ≤ 2 ∧ (∀ p ∈ q, CntF s l n x p.1 p.2 ∧ p.2.length ≤ x.length + 8) ∧ (∃ p ∈ q, p.1 = l) ∧
    ACalls Tryd.prog noG 87 [.lit (.int .i64 s), .lit (.int .i64 l), .own 0 0 x.length none, .lit (.int .i64 n)] [.bytes 5 x] (pL q) [.gone] ∧
    ACalls Tryd.prog noG 87 [.lit (.int .i64 s), .lit (.int .i64 l), .bts x, .lit (.int .i64 n)] [] (pL q) [] := by
  obtain ⟨q, h0, h1, h2, h3⟩ := lengthedB s l n x (by omega) hn
  refine ⟨q, h0, fun p hp => ?_, ⟨_, h2, rfl⟩, ?_, h3⟩
  · rcases h1 p hp with ⟨rfl, a, b⟩ | rfl
    · exact ⟨.inl ⟨rfl, rfl, a, b⟩, by simp⟩
    · have l4 := beL_len ((x.length : Int) + 4) (z := 4) (.inr (.inr (.inl rfl)))
      have l5 := beL_len (n : Int) (z := 4) (.inr (.inr (.inl rfl)))
      refine ⟨.inr ⟨rfl, rfl⟩, ?_⟩
      simp only [List.length_append]
      omega
  · refine ACalls.freezeArg 0 rfl rfl ?_
    refine (h3.frame [.gone] (by simp [leAll, AV.ren]) rfl).le ?_ (Le.refl _) rfl
    exact ⟨Le.refl _, Le.refl _, Le_take x, Le.refl _, trivial⟩

theorem vmk_vm2 (k u : Int) (t : ByteArray) (n : Nat) (f : Nat → ValT) (o : Int) (d : Nat) (g : Nat → ValT) :
    Le (.agg (vmk k u t n f o d g)) (.agg [.lit (.int .i64 k), .lit (.int .u64 u), .lit (.string t), .ro 6 n (fun i => vparts (f i)), .lit (.int .i64 o), .ro 6 d (fun i => vcl (g i))]) := by
  refine Le_agg ⟨Le.refl _, Le.refl _, Le.refl _, Le_ro' fun i hi => ?_, Le.refl _, Le.refl _, trivial⟩
  cases f i with
  | nul => exact ⟨DLe.refl _, DLe.refl _, DLe.refl _, DLe_ro fun i hi => absurd hi (Nat.not_lt_zero i), DLe.refl _, DLe_ro fun i hi => absurd hi (Nat.not_lt_zero i), trivial⟩
  | mk k u t n f o d g => exact dleAll_refl _

theorem kids_parts (n : Nat) (f : Nat → ValT) : Le (.ro 6 n (fun i => vparts (f i))) (.ro 6 n (fun i => vcl (f i))) := by
  refine Le_ro' fun i hi => ?_
  cases f i with
  | nul => exact ⟨DLe.refl _, DLe.refl _, DLe.refl _, DLe_ro fun i hi => absurd hi (Nat.not_lt_zero i), DLe.refl _, DLe_ro fun i hi => absurd hi (Nat.not_lt_zero i), trivial⟩
  | mk k u t n f o d g => exact dleAll_refl _

/-- A value without its descriptor, by its parts. -/
theorem nodesc_le (p : ValT) (g : Nat → ValT) : Le (.agg (nodesc p)) (.agg (vmk p.kind p.num p.text p.n p.kidf p.kof 0 g)) := by
  cases p with
  | nul => exact Le_agg ⟨Le.refl _, Le.refl _, Le.refl _, Le_ro fun i hi => absurd hi (Nat.not_lt_zero i), Le.refl _, Le_nil_ro, trivial⟩
  | mk k u t n f o d g => exact Le_agg ⟨Le.refl _, Le.refl _, Le.refl _, Le.refl _, Le.refl _, Le_nil_ro, trivial⟩
end Go.Ax
