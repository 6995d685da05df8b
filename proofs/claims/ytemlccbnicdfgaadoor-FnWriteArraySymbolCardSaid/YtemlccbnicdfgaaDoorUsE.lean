/-
  laws.FnWriteArraySymbol: what is written, read back; the law.
-/
import Derived.Test.YtemlccbnicdfgaaDoorUsB
import Derived.Test.YtemlccbnicdfgaaDoorUsC
import Derived.Test.YtemlccbnicdfgaaDoorUsD
import Derived.Test.YtemlccbnicdfgaaDoorUaE
set_option linter.unusedVariables false
set_option linter.unusedSimpArgs false
set_option maxRecDepth 100000
namespace Go.Ax
open Go.Proofs

theorem getS (l : List ByteArray) (i : Nat) (h : i < l.length) : l.getD i .empty = l[i] := by simp [h]
def sby (s : ByteArray) : List UInt8 := s.data.toList
theorem sby_len (s : ByteArray) : (sby s).length = s.size := rfl

/-! ### ASCII -/
def Asc (s : ByteArray) : Prop := ∀ b ∈ sby s, b.toNat < 128

theorem ascLoop (s : ByteArray) (hs : s.size ≤ 1000000000000) (h : Asc s) : ∀ (m i : Nat), s.size - i = m → i ≤ s.size →
    LoopC Tryd.prog noG 14 (loopAt Tryd.f17 0) [(0, .lit (.string s)), (3, .lit (.int .i64 i))] [] (.exit 0) [] []
  | 0, i, hk, hi => by
    obtain rfl : i = s.size := by omega
    exact LoopC.exit (aox s s.size (by simp [AllP])) (by simp)
  | m + 1, i, hk, hi => by
    have hlt : i < (sby s).length := by rw [sby_len]; omega
    have hx := h (sby s)[i] (List.getElem_mem hlt)
    have g : s.data.toList.getD i 0 = (sby s)[i] := by
      have : (sby s).getD i 0 = (sby s)[i] := by simp [hlt]
      exact this
    have e := aos s i
    simp only [ix i (by omega), Int.toNat_natCast, g] at e
    exact LoopC.step (e (by (simp only [AllP, leAll]; repeat' (first | with_reducible apply And.intro | exact trivial | with_reducible rfl | with_reducible exact Le.refl _ | with_reducible exact RowLe.refl _ | assumption | exact Le.refl _ | exact RowLe.refl _ | omega | (simp <;> omega))))) (ascLoop s hs h m (i + 1) (by omega) (by omega))

theorem ascNot (s : ByteArray) (hs : s.size ≤ 1000000000000) : ∀ (m i : Nat), s.size - i = m → i ≤ s.size → (∃ b ∈ (sby s).drop i, 128 ≤ b.toNat) →
    LoopC Tryd.prog noG 14 (loopAt Tryd.f17 0) [(0, .lit (.string s)), (3, .lit (.int .i64 i))] [] .ret [(2, .lit (.bool false))] []
  | 0, i, hk, hi, hx => by
    obtain ⟨x, hm, -⟩ := hx
    rw [List.drop_eq_nil_of_le (by rw [sby_len]; omega)] at hm
    cases hm
  | m + 1, i, hk, hi, hx => by
    have hlt : i < (sby s).length := by rw [sby_len]; omega
    have g : s.data.toList.getD i 0 = (sby s)[i] := by
      have : (sby s).getD i 0 = (sby s)[i] := by simp [hlt]
      exact this
    by_cases h : 128 ≤ (sby s)[i].toNat
    · have e := aor s i
      simp only [Int.toNat_natCast, g] at e
      exact LoopC.exit (e (by (simp only [AllP, leAll]; repeat' (first | with_reducible apply And.intro | exact trivial | with_reducible rfl | with_reducible exact Le.refl _ | with_reducible exact RowLe.refl _ | assumption | exact Le.refl _ | exact RowLe.refl _ | omega | (simp <;> omega))))) (by simp)
    · have e := aos s i
      simp only [ix i (by omega), Int.toNat_natCast, g] at e
      refine LoopC.step (e (by (simp only [AllP, leAll]; repeat' (first | with_reducible apply And.intro | exact trivial | with_reducible rfl | with_reducible exact Le.refl _ | with_reducible exact RowLe.refl _ | assumption | exact Le.refl _ | exact RowLe.refl _ | omega | (simp <;> omega))))) (ascNot s hs m (i + 1) (by omega) (by omega) ?_)
      obtain ⟨x, hm, h2⟩ := hx
      rw [List.drop_eq_getElem_cons hlt] at hm
      rcases List.mem_cons.1 hm with rfl | hm
      · exact absurd h2 h
      · exact ⟨x, hm, h2⟩

theorem asciiOnlyT (s : ByteArray) (hs : s.size ≤ 1000000000000) (h : Asc s) : ACalls Tryd.prog noG 17 [.lit (.string s)] [] (.lit (.bool true)) [] := by
  have l := (ascLoop s hs h _ 0 rfl (Nat.zero_le _)).code
  exact aot s (by (simp only [AllP, leAll]; repeat' (first | with_reducible apply And.intro | exact trivial | with_reducible rfl | with_reducible exact Le.refl _ | with_reducible exact RowLe.refl _ | assumption | exact Le.refl _ | exact RowLe.refl _ | omega | (simp <;> omega))))
theorem asciiT (s : ByteArray) (hs : s.size ≤ 1000000000000) (h : Asc s) : ACalls Tryd.prog noG 9 [.lit (.string s)] [] (.lit (.bool true)) [] := by
  have l := asciiOnlyT s hs h
  exact asc s true (by (simp only [AllP, leAll]; repeat' (first | with_reducible apply And.intro | exact trivial | with_reducible rfl | with_reducible exact Le.refl _ | with_reducible exact RowLe.refl _ | assumption | exact Le.refl _ | exact RowLe.refl _ | omega | (simp <;> omega))))
theorem asciiF (s : ByteArray) (hs : s.size ≤ 1000000000000) (h : ¬ Asc s) : ACalls Tryd.prog noG 9 [.lit (.string s)] [] (.lit (.bool false)) [] := by
  have hx : ∃ b ∈ (sby s).drop 0, 128 ≤ b.toNat := by
    rw [List.drop_zero]
    refine Classical.byContradiction fun hn => h fun b hb => ?_
    refine Classical.byContradiction fun h2 => hn ⟨b, hb, by omega⟩
  have l := (ascNot s hs _ 0 rfl (Nat.zero_le _) hx).code
  have q : ACalls Tryd.prog noG 17 [.lit (.string s)] [] (.lit (.bool false)) [] := aof s (by (simp only [AllP, leAll]; repeat' (first | with_reducible apply And.intro | exact trivial | with_reducible rfl | with_reducible exact Le.refl _ | with_reducible exact RowLe.refl _ | assumption | exact Le.refl _ | exact RowLe.refl _ | omega | (simp <;> omega))))
  exact asc s false (by (simp only [AllP, leAll]; repeat' (first | with_reducible apply And.intro | exact trivial | with_reducible rfl | with_reducible exact Le.refl _ | with_reducible exact RowLe.refl _ | assumption | exact Le.refl _ | exact RowLe.refl _ | omega | (simp <;> omega))))

/-! ### What fits -/
theorem fitLoop (l : List ByteArray) (hl : l.length ≤ 2147483647) (h : ∀ s ∈ l, s.size ≤ 2147483647) : ∀ (m i : Nat), l.length - i = m → i ≤ l.length →
    LoopC Tryd.prog noG 18 (loopAt Tryd.f7 0) [(8, roS l), (9, .lit (.int .i64 l.length)), (10, .lit (.int .i64 i))] [] (.exit 0) [] []
  | 0, i, hk, hi => by
    obtain rfl : i = l.length := by omega
    exact LoopC.exit (fix l l.length (by simp [AllP])) (by simp)
  | m + 1, i, hk, hi => by
    have hlt : i < l.length := by omega
    have hx := h l[i] (List.getElem_mem _)
    have e := fis l i
    simp only [ix i (by omega), Int.toNat_natCast, getS l i hlt] at e
    exact LoopC.step (e (by (simp only [AllP, leAll]; repeat' (first | with_reducible apply And.intro | exact trivial | with_reducible rfl | with_reducible exact Le.refl _ | with_reducible exact RowLe.refl _ | assumption | exact Le.refl _ | exact RowLe.refl _ | omega | (simp <;> omega))))) (fitLoop l hl h m (i + 1) (by omega) (by omega))
theorem fitNot (l : List ByteArray) (hl : l.length ≤ 2147483647) : ∀ (m i : Nat), l.length - i = m → i ≤ l.length → (∃ s ∈ l.drop i, 2147483647 < s.size) →
    LoopC Tryd.prog noG 18 (loopAt Tryd.f7 0) [(8, roS l), (9, .lit (.int .i64 l.length)), (10, .lit (.int .i64 i))] [] .ret [(2, .lit (.bool false))] []
  | 0, i, hk, hi, hx => by
    obtain ⟨x, hm, -⟩ := hx
    rw [List.drop_eq_nil_of_le (by omega)] at hm
    cases hm
  | m + 1, i, hk, hi, hx => by
    have hlt : i < l.length := by omega
    by_cases h : 2147483647 < l[i].size
    · have e := fir l i
      simp only [Int.toNat_natCast, getS l i hlt] at e
      exact LoopC.exit (e (by (simp only [AllP, leAll]; repeat' (first | with_reducible apply And.intro | exact trivial | with_reducible rfl | with_reducible exact Le.refl _ | with_reducible exact RowLe.refl _ | assumption | exact Le.refl _ | exact RowLe.refl _ | omega | (simp <;> omega))))) (by simp)
    · have e := fis l i
      simp only [ix i (by omega), Int.toNat_natCast, getS l i hlt] at e
      refine LoopC.step (e (by (simp only [AllP, leAll]; repeat' (first | with_reducible apply And.intro | exact trivial | with_reducible rfl | with_reducible exact Le.refl _ | with_reducible exact RowLe.refl _ | assumption | exact Le.refl _ | exact RowLe.refl _ | omega | (simp <;> omega))))) (fitNot l hl m (i + 1) (by omega) (by omega) ?_)
      obtain ⟨x, hm, h2⟩ := hx
      rw [List.drop_eq_getElem_cons hlt] at hm
      rcases List.mem_cons.1 hm with rfl | hm
      · exact absurd h2 h
      · exact ⟨x, hm, h2⟩

def Fits (l : List ByteArray) : Prop := l.length ≤ 2147483647 ∧ ∀ s ∈ l, s.size ≤ 2147483647
theorem fitsT (l : List ByteArray) (h : Fits l) : ACalls Tryd.prog noG 7 [roS l] [] (.lit (.bool true)) [] := by
  have lp := (fitLoop l h.1 h.2 _ 0 rfl (Nat.zero_le _)).code
  have d := h.1
  exact fit l (by (simp only [AllP, leAll]; repeat' (first | with_reducible apply And.intro | exact trivial | with_reducible rfl | with_reducible exact Le.refl _ | with_reducible exact RowLe.refl _ | assumption | exact Le.refl _ | exact RowLe.refl _ | omega | (simp <;> omega))))
theorem fitsF (l : List ByteArray) (h : ¬ Fits l) : ACalls Tryd.prog noG 7 [roS l] [] (.lit (.bool false)) [] := by
  by_cases h1 : l.length ≤ 2147483647
  · have hx : ∃ s ∈ l.drop 0, 2147483647 < s.size := by
      rw [List.drop_zero]
      refine Classical.byContradiction fun hn => h ⟨h1, fun s hs => ?_⟩
      refine Classical.byContradiction fun h2 => hn ⟨s, hs, by omega⟩
    have lp := (fitNot l h1 _ 0 rfl (Nat.zero_le _) hx).code
    exact fif l (by (simp only [AllP, leAll]; repeat' (first | with_reducible apply And.intro | exact trivial | with_reducible rfl | with_reducible exact Le.refl _ | with_reducible exact RowLe.refl _ | assumption | exact Le.refl _ | exact RowLe.refl _ | omega | (simp <;> omega))))
  · exact fia l (by simp only [AllP]; exact ⟨by simp; omega, trivial⟩)

/-! ### The buffer, with more in it -/
theorem app32L (bs : List UInt8) (v : Int) (h : bs.length ≤ 100000000) (h0 : 0 ≤ v) (h1 : v < 4294967296) : ACalls Tryd.prog noG 24 [.ptr 0 0, .lit (.int .u32 v)] [bufRow (.own 1 0 bs.length none), .bytes 5 bs] (.tup []) [bufRow (.own 2 0 (bs ++ b4 v).length none), .gone, .bytes 5 (bs ++ b4 v)] := by
  have f1 : v.fdiv 256 = v / 256 := by rw [Int.fdiv_eq_ediv_of_nonneg _ (by omega)]
  have f2 : v.fdiv 65536 = v / 65536 := by rw [Int.fdiv_eq_ediv_of_nonneg _ (by omega)]
  have f3 : v.fdiv 16777216 = v / 16777216 := by rw [Int.fdiv_eq_ediv_of_nonneg _ (by omega)]
  have e := a4o bs v
  simp only [f1, f2, f3, wrapU8, byteI_toNat] at e
  refine (e ?_).cast rfl rfl rfl (by simp [b4, bufRow])
  simp only [AllP]
  refine ⟨by omega, by omega, ⟨by omega, by omega⟩, ⟨by omega, by omega⟩, ⟨by omega, by omega⟩, ⟨by omega, by omega⟩, by omega, by omega, by omega, trivial⟩
theorem app8L (bs : List UInt8) (v : Int) (h : bs.length ≤ 100000000) (h0 : 0 ≤ v) (h1 : v ≤ 255) : ACalls Tryd.prog noG 20 [.ptr 0 0, .lit (.int .u8 v)] [bufRow (.own 1 0 bs.length none), .bytes 5 bs] (.tup []) [bufRow (.own 2 0 (bs ++ [byteI v]).length none), .gone, .bytes 5 (bs ++ [byteI v])] := by
  have e := abo bs v (by simp only [AllP]; exact ⟨by omega, by omega, ⟨by omega, by omega⟩, trivial⟩)
  have hb : UInt8.ofNat v.toNat = byteI v := by rw [byteI, show v % 256 = v by omega]
  rw [hb] at e
  exact e.cast rfl rfl rfl (by simp [bufRow])
theorem appS (bs : List UInt8) (s : ByteArray) (h : bs.length ≤ 100000000) (hs : s.size ≤ 131072) : ACalls Tryd.prog noG 25 [.ptr 0 0, .lit (.string s)] [bufRow (.own 1 0 bs.length none), .bytes 5 bs] (.tup []) [bufRow (.own 2 0 (bs ++ sby s).length none), .gone, .bytes 5 (bs ++ sby s)] := by
  have hl : s.data.toList.length = s.size := rfl
  have e := aso bs s (by simp only [AllP]; exact ⟨by omega, by omega, trivial⟩)
  rw [List.drop_zero, List.take_length, ← List.length_append] at e
  exact e

/-! ### The head -/
theorem vHead1 (n s : Int) (h0 : 0 ≤ n) (h2 : n ≤ 1000000) (h3 : 0 ≤ s) (h4 : s ≤ 1000000000) : ACalls Tryd.prog noG 23 [.ptr 0 0, .lit (.int .i64 n), .lit (.int .i64 s), .lit (.int .u8 163)] [bufRow (.lit (.slice none 0 0))] (.tup []) [bufRow (.own 1 0 (encH (s + n) n 163).length none), .bytes 5 (encH (s + n) n 163)] := by
  have w0 : IntKind.i64.wrap (n * 1) = n := by rw [Int.mul_one]; exact wrap64 (by omega) (by omega)
  have w1 : IntKind.i64.wrap (s + n) = s + n := wrap64 (by omega) (by omega)
  have w2 : IntKind.i64.wrap (s + n + 2) = s + n + 2 := wrap64 (by omega) (by omega)
  have w3 : IntKind.i64.wrap (s + n + 5) = s + n + 5 := wrap64 (by omega) (by omega)
  by_cases h : s + n + 2 ≤ 255
  · have a := apN [224, byteI (s + n + 2), byteI n, 163] 4 (by simp) (by simp)
    have he : encH (s + n) n 163 = [224, byteI (s + n + 2), byteI n, 163] := by simp [encH, h]
    rw [he]
    have q := vhs163 n s ((s + n + 2) % 256) (n % 256)
    simp only [w0, w1, w2, w3, wrapU8, byteI_toNat] at q
    exact q (by (simp only [AllP, leAll]; repeat' (first | with_reducible apply And.intro | exact trivial | with_reducible rfl | with_reducible exact Le.refl _ | with_reducible exact RowLe.refl _ | assumption | exact Le.refl _ | exact RowLe.refl _ | omega | (simp <;> omega))))
  · have he : encH (s + n) n 163 = [240] ++ b4 (s + n + 5) ++ b4 n ++ [163] := by simp [encH, h]
    rw [he]
    have w4 : IntKind.u32.wrap (s + n + 5) = s + n + 5 := by rw [wrapU32]; omega
    have w5 : IntKind.u32.wrap n = n := by rw [wrapU32]; omega
    have q := vhb163 n s (s + n + 5) n ([240] ++ b4 (s + n + 5)) ([240] ++ b4 (s + n + 5) ++ b4 n) ([240] ++ b4 (s + n + 5) ++ b4 n ++ [163])
    simp only [w0, w1, w2, w3, w4, w5] at q
    have a1 := app0 240
    have a2 := app32 [240] (s + n + 5) (by simp) (by omega) (by omega)
    have a3 := app32 ([240] ++ b4 (s + n + 5)) n (by simp [b4]) (by omega) (by omega)
    have a4 := app8 ([240] ++ b4 (s + n + 5) ++ b4 n) 163 (by simp [b4])
    exact q (by (simp only [AllP, leAll]; repeat' (first | with_reducible apply And.intro | exact trivial | with_reducible rfl | with_reducible exact Le.refl _ | with_reducible exact RowLe.refl _ | assumption | exact Le.refl _ | exact RowLe.refl _ | omega | (simp <;> omega))))

theorem vHead4 (n s : Int) (h0 : 0 ≤ n) (h2 : n ≤ 1000000) (h3 : 0 ≤ s) (h4 : s ≤ 1000000000) : ACalls Tryd.prog noG 23 [.ptr 0 0, .lit (.int .i64 n), .lit (.int .i64 s), .lit (.int .u8 179)] [bufRow (.lit (.slice none 0 0))] (.tup []) [bufRow (.own 1 0 (encH (s + n * 4) n 179).length none), .bytes 5 (encH (s + n * 4) n 179)] := by
  have w0 : IntKind.i64.wrap (n * 4) = n * 4 := wrap64 (by omega) (by omega)
  have w1 : IntKind.i64.wrap (s + n * 4) = s + n * 4 := wrap64 (by omega) (by omega)
  have w2 : IntKind.i64.wrap (s + n * 4 + 2) = s + n * 4 + 2 := wrap64 (by omega) (by omega)
  have w3 : IntKind.i64.wrap (s + n * 4 + 5) = s + n * 4 + 5 := wrap64 (by omega) (by omega)
  by_cases h : s + n * 4 + 2 ≤ 255
  · have a := apN [224, byteI (s + n * 4 + 2), byteI n, 179] 4 (by simp) (by simp)
    have he : encH (s + n * 4) n 179 = [224, byteI (s + n * 4 + 2), byteI n, 179] := by simp [encH, h]
    rw [he]
    have q := vhs179 n s ((s + n * 4 + 2) % 256) (n % 256)
    simp only [w0, w1, w2, w3, wrapU8, byteI_toNat] at q
    exact q (by (simp only [AllP, leAll]; repeat' (first | with_reducible apply And.intro | exact trivial | with_reducible rfl | with_reducible exact Le.refl _ | with_reducible exact RowLe.refl _ | assumption | exact Le.refl _ | exact RowLe.refl _ | omega | (simp <;> omega))))
  · have he : encH (s + n * 4) n 179 = [240] ++ b4 (s + n * 4 + 5) ++ b4 n ++ [179] := by simp [encH, h]
    rw [he]
    have w4 : IntKind.u32.wrap (s + n * 4 + 5) = s + n * 4 + 5 := by rw [wrapU32]; omega
    have w5 : IntKind.u32.wrap n = n := by rw [wrapU32]; omega
    have q := vhb179 n s (s + n * 4 + 5) n ([240] ++ b4 (s + n * 4 + 5)) ([240] ++ b4 (s + n * 4 + 5) ++ b4 n) ([240] ++ b4 (s + n * 4 + 5) ++ b4 n ++ [179])
    simp only [w0, w1, w2, w3, w4, w5] at q
    have a1 := app0 240
    have a2 := app32 [240] (s + n * 4 + 5) (by simp) (by omega) (by omega)
    have a3 := app32 ([240] ++ b4 (s + n * 4 + 5)) n (by simp [b4]) (by omega) (by omega)
    have a4 := app8 ([240] ++ b4 (s + n * 4 + 5) ++ b4 n) 179 (by simp [b4])
    exact q (by (simp only [AllP, leAll]; repeat' (first | with_reducible apply And.intro | exact trivial | with_reducible rfl | with_reducible exact Le.refl _ | with_reducible exact RowLe.refl _ | assumption | exact Le.refl _ | exact RowLe.refl _ | omega | (simp <;> omega))))

/-! ### Marshal -/
def tot : List ByteArray → Nat
  | [] => 0
  | s :: l => s.size + tot l
def codeOf (c : Int) : List ByteArray → Int
  | [] => c
  | s :: l => codeOf (if 255 < s.size then 179 else c) l
def Sml (l : List ByteArray) : Prop := ∀ s ∈ l, s.size ≤ 255
theorem codeOf_179 : ∀ l : List ByteArray, codeOf 179 l = 179
  | [] => rfl
  | s :: l => by simp only [codeOf, ite_self]; exact codeOf_179 l
theorem codeOf_small : ∀ l : List ByteArray, Sml l → codeOf 163 l = 163
  | [], _ => rfl
  | s :: l, h => by
    have := h s (by simp)
    simp only [codeOf]
    rw [if_neg (by omega)]
    exact codeOf_small l fun x hx => h x (by simp [hx])
theorem codeOf_large : ∀ l : List ByteArray, ¬ Sml l → codeOf 163 l = 179
  | [], h => absurd (fun s hs => by cases hs) h
  | s :: l, h => by
    simp only [codeOf]
    by_cases hs : 255 < s.size
    · rw [if_pos hs]; exact codeOf_179 l
    · rw [if_neg hs]
      refine codeOf_large l fun hn => h fun x hx => ?_
      rcases List.mem_cons.1 hx with rfl | hx
      · omega
      · exact hn x hx
theorem tot_le : ∀ l : List ByteArray, (∀ s ∈ l, s.size ≤ 4096) → tot l ≤ l.length * 4096
  | [], _ => by simp [tot]
  | s :: l, h => by
    have h1 := h s (by simp)
    have h2 := tot_le l fun x hx => h x (by simp [hx])
    simp only [tot, List.length_cons]
    omega

def bz : List Row := [bufRow (.lit (.slice none 0 0))]
def sl1 (l : List ByteArray) (i : Nat) (c o : Int) : List (Nat × AV) := [(0, roS l), (1, .ptr 0 0), (5, .lit (.int .u8 c)), (6, .lit (.int .i64 o)), (13, roS l), (14, .lit (.int .i64 l.length)), (15, .lit (.int .i64 i))]

theorem sumLoop (l : List ByteArray) (hl : l.length ≤ 1000) (hv : ∀ s ∈ l, s.size ≤ 4096) : ∀ (m i : Nat) (c : Int) (o : Nat), l.length - i = m → i ≤ l.length → o ≤ i * 4096 →
    LoopC Tryd.prog noG 65 (loopAt Tryd.f16 0) (sl1 l i c o) bz (.exit 0) [(0, roS l), (1, .ptr 0 0), (5, .lit (.int .u8 (codeOf c (l.drop i)))), (6, .lit (.int .i64 ((o + tot (l.drop i) : Nat) : Int)))] bz
  | 0, i, c, o, hk, hi, ho => by
    obtain rfl : i = l.length := by omega
    rw [List.drop_length]
    exact LoopC.exit (m1x l l.length c o (by simp [AllP])) (by simp)
  | m + 1, i, c, o, hk, hi, ho => by
    have hlt : i < l.length := by omega
    have hx := hv l[i] (List.getElem_mem _)
    have w : IntKind.i64.wrap ((o : Int) + (l[i].size : Int)) = ((o + l[i].size : Nat) : Int) := by rw [wrap64 (by omega) (by omega)]; simp
    rw [List.drop_eq_getElem_cons hlt]
    simp only [codeOf, tot]
    have ih := sumLoop l hl hv m (i + 1) (if 255 < l[i].size then 179 else c) (o + l[i].size) (by omega) (by omega) (by omega)
    rw [Nat.add_assoc] at ih
    by_cases h : 255 < l[i].size
    · rw [if_pos h] at ih ⊢
      have e := m1b l i c o
      simp only [ix i (by omega), Int.toNat_natCast, getS l i hlt, w] at e
      exact LoopC.step (e (by (simp only [AllP, leAll]; repeat' (first | with_reducible apply And.intro | exact trivial | with_reducible rfl | with_reducible exact Le.refl _ | with_reducible exact RowLe.refl _ | assumption | exact Le.refl _ | exact RowLe.refl _ | omega | (simp <;> omega))))) ih
    · rw [if_neg h] at ih ⊢
      have e := m1s l i c o
      simp only [ix i (by omega), Int.toNat_natCast, getS l i hlt, w] at e
      exact LoopC.step (e (by (simp only [AllP, leAll]; repeat' (first | with_reducible apply And.intro | exact trivial | with_reducible rfl | with_reducible exact Le.refl _ | with_reducible exact RowLe.refl _ | assumption | exact Le.refl _ | exact RowLe.refl _ | omega | (simp <;> omega))))) ih

def enc1 (s : ByteArray) : List UInt8 := [byteI s.size] ++ sby s
def enc4 (s : ByteArray) : List UInt8 := b4 s.size ++ sby s
def gs (e : ByteArray → List UInt8) (l : List ByteArray) : List UInt8 := l.flatMap e
theorem gs_len (e : ByteArray → List UInt8) (k : Nat) (he : ∀ s, (e s).length = k + s.size) : ∀ l : List ByteArray, (gs e l).length = tot l + l.length * k
  | [] => by simp [gs, tot]
  | s :: l => by
    have ih := gs_len e k he l
    simp only [gs, List.flatMap_cons, List.length_append] at ih ⊢
    rw [ih, he, List.length_cons, Nat.succ_mul, tot]
    omega
theorem enc1_len (s : ByteArray) : (enc1 s).length = 1 + s.size := by simp [enc1, sby_len]; omega
theorem enc4_len (s : ByteArray) : (enc4 s).length = 4 + s.size := by simp [enc4, b4, sby_len]; omega
theorem gs_snoc (e : ByteArray → List UInt8) (l : List ByteArray) (i : Nat) (h : i < l.length) : gs e (l.take (i + 1)) = gs e (l.take i) ++ e l[i] := by
  simp only [gs, List.take_succ_eq_append_getElem h, List.flatMap_append, List.flatMap_cons, List.flatMap_nil, List.append_nil]
theorem gs_small (e : ByteArray → List UInt8) (k : Nat) (hk : k ≤ 4) (he : ∀ s, (e s).length = k + s.size) (l : List ByteArray) (hl : l.length ≤ 1000) (hv : ∀ s ∈ l, s.size ≤ 4096) (i : Nat) : (gs e (l.take i)).length ≤ 10000000 := by
  rw [gs_len e k he]
  have h1 := tot_le (l.take i) fun s hs => hv s (List.mem_of_mem_take hs)
  have h2 : (l.take i).length ≤ 1000 := by rw [List.length_take]; omega
  have h3 : (l.take i).length * k ≤ (l.take i).length * 4 := Nat.mul_le_mul_left _ hk
  omega

theorem loop4 (l : List ByteArray) (hd : List UInt8) (hl : l.length ≤ 1000) (hh : hd.length ≤ 10) (hv : ∀ s ∈ l, s.size ≤ 4096) :
    CodeC Tryd.prog noG 65 (.loop (loopAt Tryd.f16 1)) [(1, .ptr 0 0), (35, roS l), (36, .lit (.int .i64 l.length)), (37, .lit (.int .i64 (0 : Nat)))] [bufRow (.own 1 0 hd.length none), .bytes 5 hd] (.exit 2) [(1, .ptr 0 0)] [bufRow (.own 2 0 (hd ++ gs enc4 l).length none), .gone, .bytes 5 (hd ++ gs enc4 l)] := by
  have key := growOwn (P := Tryd.prog) (G := noG) (k := 1) (n := 65) (c := loopAt Tryd.f16 1) (N := l.length) (ex := .exit 2)
    (fun i _ => [(1, .ptr 0 0), (35, roS l), (36, .lit (.int .i64 l.length)), (37, .lit (.int .i64 i))]) (fun _ => [(1, .ptr 0 0)]) (fun w => [bufRow w]) (fun i => .bytes 5 (hd ++ gs enc4 (l.take i))) (fun i => (hd ++ gs enc4 (l.take i)).length) (by simp) [some 0, some 2]
    (fun i hi => by
      have hx := hv l[i] (List.getElem_mem _)
      have hlen : (hd ++ gs enc4 (l.take i)).length ≤ 20000000 := by rw [List.length_append]; have := gs_small enc4 4 (by omega) enc4_len l hl hv i; omega
      have a1 := app32L (hd ++ gs enc4 (l.take i)) l[i].size (by omega) (by omega) (by omega)
      have a2 := appS (hd ++ gs enc4 (l.take i) ++ b4 l[i].size) l[i] (by rw [List.length_append]; simp only [b4, List.length_cons, List.length_nil]; omega) (by omega)
      have ha : hd ++ gs enc4 (l.take (i + 1)) = hd ++ gs enc4 (l.take i) ++ b4 l[i].size ++ sby l[i] := by rw [gs_snoc enc4 l i hi, enc4]; simp only [List.append_assoc]
      rw [← ha] at a2
      have w : IntKind.u32.wrap (l[i].size : Int) = l[i].size := by rw [wrapU32]; omega
      have e := m2o l i l[i].size (hd ++ gs enc4 (l.take i)) (hd ++ gs enc4 (l.take i) ++ b4 l[i].size) (hd ++ gs enc4 (l.take (i + 1)))
      simp only [ix i (by omega), getS l i hi, Int.toNat_natCast, w] at e
      exact e (by (simp only [AllP, leAll]; repeat' (first | with_reducible apply And.intro | exact trivial | with_reducible rfl | with_reducible exact Le.refl _ | with_reducible exact RowLe.refl _ | assumption | exact Le.refl _ | exact RowLe.refl _ | omega | (simp <;> omega)))))
    (m2x l l.length (hd ++ gs enc4 (l.take l.length)) (by simp [AllP]))
    (fun i hi => rfl) (fun i hi => rfl) (fun i hi => rfl) [some 0, none, some 1] rfl rfl
  simp only [List.take_zero, List.take_length] at key
  have h0 : hd ++ gs enc4 [] = hd := by simp [gs]
  rw [h0] at key
  exact key

theorem loop1 (l : List ByteArray) (hd : List UInt8) (hl : l.length ≤ 1000) (hh : hd.length ≤ 10) (hv : Sml l) :
    CodeC Tryd.prog noG 65 (.loop (loopAt Tryd.f16 2)) [(1, .ptr 0 0), (50, roS l), (51, .lit (.int .i64 l.length)), (52, .lit (.int .i64 (0 : Nat)))] [bufRow (.own 1 0 hd.length none), .bytes 5 hd] (.exit 4) [(1, .ptr 0 0)] [bufRow (.own 2 0 (hd ++ gs enc1 l).length none), .gone, .bytes 5 (hd ++ gs enc1 l)] := by
  have hv' : ∀ s ∈ l, s.size ≤ 4096 := fun s hs => by have := hv s hs; omega
  have key := growOwn (P := Tryd.prog) (G := noG) (k := 1) (n := 65) (c := loopAt Tryd.f16 2) (N := l.length) (ex := .exit 4)
    (fun i _ => [(1, .ptr 0 0), (50, roS l), (51, .lit (.int .i64 l.length)), (52, .lit (.int .i64 i))]) (fun _ => [(1, .ptr 0 0)]) (fun w => [bufRow w]) (fun i => .bytes 5 (hd ++ gs enc1 (l.take i))) (fun i => (hd ++ gs enc1 (l.take i)).length) (by simp) [some 0, some 2]
    (fun i hi => by
      have hx := hv l[i] (List.getElem_mem _)
      have hlen : (hd ++ gs enc1 (l.take i)).length ≤ 20000000 := by rw [List.length_append]; have := gs_small enc1 1 (by omega) enc1_len l hl hv' i; omega
      have a1 := app8L (hd ++ gs enc1 (l.take i)) l[i].size (by omega) (by omega) (by omega)
      have a2 := appS (hd ++ gs enc1 (l.take i) ++ [byteI l[i].size]) l[i] (by rw [List.length_append]; simp only [List.length_cons, List.length_nil]; omega) (by omega)
      have ha : hd ++ gs enc1 (l.take (i + 1)) = hd ++ gs enc1 (l.take i) ++ [byteI l[i].size] ++ sby l[i] := by rw [gs_snoc enc1 l i hi, enc1]; simp only [List.append_assoc]
      rw [← ha] at a2
      have w : IntKind.u8.wrap (l[i].size : Int) = l[i].size := by rw [wrapU8]; omega
      have e := m3o l i l[i].size (hd ++ gs enc1 (l.take i)) (hd ++ gs enc1 (l.take i) ++ [byteI l[i].size]) (hd ++ gs enc1 (l.take (i + 1)))
      simp only [ix i (by omega), getS l i hi, Int.toNat_natCast, w] at e
      exact e (by (simp only [AllP, leAll]; repeat' (first | with_reducible apply And.intro | exact trivial | with_reducible rfl | with_reducible exact Le.refl _ | with_reducible exact RowLe.refl _ | assumption | exact Le.refl _ | exact RowLe.refl _ | omega | (simp <;> omega)))))
    (m3x l l.length (hd ++ gs enc1 (l.take l.length)) (by simp [AllP]))
    (fun i hi => rfl) (fun i hi => rfl) (fun i hi => rfl) [some 0, none, some 1] rfl rfl
  simp only [List.take_zero, List.take_length] at key
  have h0 : hd ++ gs enc1 [] = hd := by simp [gs]
  rw [h0] at key
  exact key

open Classical in
/-- An array of symbols, as it is written. -/
noncomputable def encArr (l : List ByteArray) : List UInt8 := if Sml l then encH (tot l + l.length) l.length 163 ++ gs enc1 l else encH (tot l + l.length * 4) l.length 179 ++ gs enc4 l
theorem encArr_s (l : List ByteArray) (h : Sml l) : encArr l = encH (tot l + l.length) l.length 163 ++ gs enc1 l := by rw [encArr, if_pos h]
theorem encArr_l (l : List ByteArray) (h : ¬ Sml l) : encArr l = encH (tot l + l.length * 4) l.length 179 ++ gs enc4 l := by rw [encArr, if_neg h]

theorem encArr_len (l : List ByteArray) (hl : l.length ≤ 1000) (hv : ∀ s ∈ l, s.size ≤ 4096) : 0 < (encArr l).length ∧ (encArr l).length ≤ 10000010 := by
  have h1 := gs_small enc1 1 (by omega) enc1_len l hl hv l.length
  have h4 := gs_small enc4 4 (by omega) enc4_len l hl hv l.length
  rw [List.take_length] at h1 h4
  by_cases h : Sml l
  · have := encH_len (tot l + l.length) l.length 163
    rw [encArr_s l h, List.length_append]; omega
  · have := encH_len (tot l + l.length * 4) l.length 179
    rw [encArr_l l h, List.length_append]; omega

theorem marshal (l : List ByteArray) (hl : l.length ≤ 1000) (hv : ∀ s ∈ l, s.size ≤ 4096) :
    ACalls Tryd.prog noG 16 [roS l, .ptr 0 0] [bufRow (.lit (.slice none 0 0)), .gone] (.lit .nilIface) [bufRow (.own 2 0 (encArr l).length none), .gone, .bytes 5 (encArr l)] := by
  have ht := tot_le l hv
  have lp := (sumLoop l hl hv _ 0 163 0 rfl (Nat.zero_le _) (by omega)).code
  simp only [List.drop_zero, Nat.zero_add] at lp
  by_cases h : Sml l
  · rw [encArr_s l h]
    rw [codeOf_small l h] at lp
    have hd := vHead1 l.length (tot l) (by omega) (by omega) (by omega) (by omega)
    have g := encH_len (tot l + l.length) l.length 163
    have lq := loop1 l (encH (tot l + l.length) l.length 163) hl g.2 h
    exact mm1 l (tot l) (encH (tot l + l.length) l.length 163) (encH (tot l + l.length) l.length 163 ++ gs enc1 l) (by (simp only [AllP, leAll]; repeat' (first | with_reducible apply And.intro | exact trivial | with_reducible rfl | with_reducible exact Le.refl _ | with_reducible exact RowLe.refl _ | assumption | exact Le.refl _ | exact RowLe.refl _ | omega | (simp <;> omega))))
  · rw [encArr_l l h]
    rw [codeOf_large l h] at lp
    have hd := vHead4 l.length (tot l) (by omega) (by omega) (by omega) (by omega)
    have g := encH_len (tot l + l.length * 4) l.length 179
    have lq := loop4 l (encH (tot l + l.length * 4) l.length 179) hl g.2 hv
    exact mm4 l (tot l) (encH (tot l + l.length * 4) l.length 179) (encH (tot l + l.length * 4) l.length 179 ++ gs enc4 l) (by (simp only [AllP, leAll]; repeat' (first | with_reducible apply And.intro | exact trivial | with_reducible rfl | with_reducible exact Le.refl _ | with_reducible exact RowLe.refl _ | assumption | exact Le.refl _ | exact RowLe.refl _ | omega | (simp <;> omega))))

theorem encArr_nil : encArr [] = encH 0 0 163 := by rw [encArr_s [] (fun s hs => by cases hs)]; rfl
theorem marshal0 : ACalls Tryd.prog noG 16 [.lit (.slice none 0 0), .ptr 0 0] [bufRow (.lit (.slice none 0 0))] (.lit .nilIface) [bufRow (.own 1 0 (encArr []).length none), .bytes 5 (encArr [])] := by
  rw [encArr_nil]
  have h := vHead1 0 0 (by omega) (by omega) (by omega) (by omega)
  have lp := (LoopC.exit (m1z (by simp [AllP])) (by simp)).code
  have lq := (LoopC.exit (m3z (encH 0 0 163) (by simp [AllP])) (by simp)).code
  exact mz (encH 0 0 163) (by (simp only [AllP, leAll]; repeat' (first | with_reducible apply And.intro | exact trivial | with_reducible rfl | with_reducible exact Le.refl _ | with_reducible exact RowLe.refl _ | assumption | exact Le.refl _ | exact RowLe.refl _ | omega | (simp <;> omega))))

/-! ### impl.WriteArraySymbol -/
def cS (x : ByteArray) : List AV := [.lit (.string x)]
theorem cS_cells : LCells cS 1 := ⟨fun x => rfl, fun f x => rfl, fun x => rfl⟩

theorem copyLoop (l : List ByteArray) (hl : l.length ≤ 1000) (h0 : 0 < l.length) :
    CodeC Tryd.prog noG 28 (.loop (loopAt Tryd.f8 0)) [(2, .ptr 0 0), (3, .ptr 1 0), (8, roS l), (9, .lit (.int .i64 l.length)), (10, .lit (.int .i64 (0 : Nat))), (4, .lit (.slice none 0 0))] [.cells 23 1 [.lit (.slice none 0 0)], .cells 4 1 [.lit (.bool false)]] (.exit 0) [(2, .ptr 0 0), (3, .ptr 1 0), (4, .own 2 0 l.length none)] [.cells 23 1 [.lit (.slice none 0 0)], .cells 4 1 [.lit (.bool false)], .cells 53 1 (flatC cS l)] := by
  have hren : ∀ f i, Row.ren f (.cells 53 1 (flatC cS (l.take i))) = .cells 53 1 (flatC cS (l.take i)) := fun f i => by simp only [Row.ren, cS_cells.flatC_ren]
  have key := growNil (P := Tryd.prog) (G := noG) (k := 2) (n := 28) (c := loopAt Tryd.f8 0) (N := l.length) (ex := .exit 0)
    (fun i w => [(2, .ptr 0 0), (3, .ptr 1 0), (8, roS l), (9, .lit (.int .i64 l.length)), (10, .lit (.int .i64 i)), (4, w)]) (fun w => [(2, .ptr 0 0), (3, .ptr 1 0), (4, w)])
    (fun w => [.cells 23 1 [.lit (.slice none 0 0)], .cells 4 1 [.lit (.bool false)]]) (fun i => .cells 53 1 (flatC cS (l.take i))) (fun i => i) (by simp) [some 0, some 1, some 3] (.lit (.slice none 0 0)) h0
    (by
      have e := win l 0
      simp only [ix 0 (by omega), getS l 0 h0, Int.toNat_natCast] at e
      refine (e ?_).cast rfl rfl rfl ?_
      · (simp only [AllP, leAll]; repeat' (first | with_reducible apply And.intro | exact trivial | with_reducible rfl | with_reducible exact Le.refl _ | with_reducible exact RowLe.refl _ | assumption | exact Le.refl _ | exact RowLe.refl _ | omega | (simp <;> omega)))
      · show _ = [_, _, Row.cells 53 1 (flatC cS (l.take (0 + 1)))]
        rw [flatC_snoc l 0 h0]; rfl)
    (fun i hi0 hi => by
      have e := wio l i i (flatC cS (l.take i))
      have t := cS_cells.flatC_take l i (by omega)
      have r := flatC_snoc (C := cS) l i hi
      have q : ∀ f, AV.renL f (flatC cS (l.take i) ++ [.lit (.string l[i])]) = flatC cS (l.take (i + 1)) := fun f => by rw [r, renL_app', cS_cells.flatC_ren]; rfl
      simp only [ix i (by omega), getS l i hi, Int.toNat_natCast, List.drop_zero, t, q] at e
      exact e (by (simp only [AllP, leAll]; repeat' (first | with_reducible apply And.intro | exact trivial | with_reducible rfl | with_reducible exact Le.refl _ | with_reducible exact RowLe.refl _ | assumption | exact Le.refl _ | exact RowLe.refl _ | omega | (simp <;> omega)))))
    (by
      have e := wixo l l.length l.length (flatC cS (l.take l.length)) (by simp [AllP])
      rw [cS_cells.flatC_ren] at e
      exact e)
    (fun i hi => rfl) (fun i hi => rfl)
    (fun i hi => congrArg (fun x => [Row.cells 23 1 [.lit (.slice none 0 0)], Row.cells 4 1 [.lit (.bool false)], x]) (hren _ (i + 1)))
    [some 0, some 1, some 2] rfl rfl rfl rfl (fun i => congrArg (fun x => [Row.cells 23 1 [.lit (.slice none 0 0)], Row.cells 4 1 [.lit (.bool false)], x]) (hren _ i)) rfl
  simp only [List.take_length] at key
  exact key

theorem writeArr (l : List ByteArray) (hl : l.length ≤ 1000) (hv : ∀ s ∈ l, s.size ≤ 4096) : ACalls Tryd.prog noG 8 [roS l] [] (.tup [.bts (encArr l), .lit (.bool true)]) [] := by
  have g := encArr_len l hl hv
  have nd := noDataIdle
  have b := (w20 (encArr l) (by simp [AllP])).cast rfl rfl (show _ = AV.own 1 0 (encArr l).length none by simp) rfl
  have c : ACalls Tryd.prog noG 12 [.own 0 0 (encArr l).length none] [.bytes 5 (encArr l)] (.own 1 0 (encArr l).length none) [.bytes 5 (encArr l), .bytes 5 (encArr l)] := (w19 (encArr l) (by simp [AllP]; omega)).cast rfl rfl (by simp) (by simp)
  rcases Nat.eq_zero_or_pos l.length with h0 | h0
  · obtain rfl := List.eq_nil_of_length_eq_zero h0
    have lp : CodeC Tryd.prog noG 28 (.loop (loopAt Tryd.f8 0)) _ _ _ _ _ := (LoopC.exit (wixn [] 0 (by simp [AllP])) (by simp)).code
    have m := marshal0
    have e := wz [] (encArr []) (by (simp only [AllP, leAll]; repeat' (first | with_reducible apply And.intro | exact trivial | with_reducible rfl | with_reducible exact Le.refl _ | with_reducible exact RowLe.refl _ | assumption | exact Le.refl _ | exact RowLe.refl _ | omega | (simp <;> omega))))
    have h2 := (e.freezeRet 0 rfl rfl).only [] (by rfl)
    exact h2.cast rfl rfl (by simp [AV.frz, AV.frzL, frzOwn, AV.ren, AV.renL, List.take_of_length_le]) rfl
  · have lp := copyLoop l hl h0
    have m : ACalls Tryd.prog noG 16 [.own 1 0 l.length none, .ptr 0 0] [bufRow (.lit (.slice none 0 0)), .cells 53 1 (flatC cS l)] (.lit .nilIface) [bufRow (.own 2 0 (encArr l).length none), .gone, .bytes 5 (encArr l)] := by
      refine ACalls.freezeArg 1 (r := .cells 53 1 (flatC cS l)) rfl (cS_cells.flatC_closed l) ?_
      refine (marshal l hl hv).le (args' := [.ro 1 l.length (fun i => ((flatC cS l).drop (0 + i * 1)).take 1), .ptr 0 0]) ⟨cS_cells.le_ro l (fun i hi => by rw [getS l i hi]; rfl), Le.refl _, trivial⟩ (Le.refl _) rfl
    have e := wm l l.length (flatC cS l) (encArr l) (by
      simp only [cS_cells.flatC_ren]
      (simp only [AllP, leAll]; repeat' (first | with_reducible apply And.intro | exact trivial | with_reducible rfl | with_reducible exact Le.refl _ | with_reducible exact RowLe.refl _ | assumption | exact Le.refl _ | exact RowLe.refl _ | omega | (simp <;> omega))))
    have h2 := (e.freezeRet 0 rfl rfl).only [] (by rfl)
    exact h2.cast rfl rfl (by simp [AV.frz, AV.frzL, frzOwn, AV.ren, AV.renL, List.take_of_length_le]) rfl
end Go.Ax
