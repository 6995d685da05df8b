/-
  The Go functions that laws.FnWriteString reaches, each by a contract; but for utf8.ValidString, whose contract comes as a premise here.
-/
import Derived.Test.YtmaofopbhlcgkaaDoorWsB
import Derived.Test.YtmaofopbhlcgkaaDoorWiC
import Derived.Lib.ValidU
set_option linter.unusedVariables false
set_option linter.unusedSimpArgs false
set_option maxRecDepth 100000
namespace Go.Ax
open Go.Proofs

def headS (n : Nat) : List UInt8 := if n < 256 then [161, UInt8.ofNat n] else [177, UInt8.ofNat (n / 16777216), UInt8.ofNat (n / 65536 % 256), UInt8.ofNat (n / 256 % 256), UInt8.ofNat (n % 256)]
def encStr (s : ByteArray) : List UInt8 := headS s.size ++ s.data.toList
theorem size_len (s : ByteArray) : s.data.toList.length = s.size := rfl

theorem apStr (bs : List UInt8) (s : ByteArray) (h : bs.length ≤ 1000000) (hs : s.size ≤ 131072) : ACalls Tryd.prog gU 53 [.ptr 0 0, .lit (.string s)] [bufRow (.own 1 0 bs.length none), .bytes 5 bs] (.tup []) [bufRow (.own 2 0 (bs ++ s.data.toList).length none), .gone, .bytes 5 (bs ++ s.data.toList)] := by
  have hl := size_len s
  have e := aso bs s (by simp only [AllP]; exact ⟨by omega, by omega, trivial⟩)
  rw [List.drop_zero, List.take_length, ← List.length_append] at e
  exact e

theorem wrU8 (n : Nat) (h : n < 256) : IntKind.u8.wrap (n : Int) = n := by rw [wrapU8]; omega

section
variable (hV : ∀ s : ByteArray, s.size ≤ 131072 → ACalls Tryd.prog gU 11 [.lit (.string s)] [] (.lit (.bool (Lib.validD s.data.toList))) [])
include hV

theorem writeStr (s : ByteArray) (hs : s.size ≤ 131072) (hv : Lib.validD s.data.toList = true) : ACalls Tryd.prog gU 35 [.ptr 0 0, .lit (.string s)] [bufRow (.lit (.slice none 0 0))] (.lit .nilIface) [bufRow (.own 1 0 (encStr s).length none), .bytes 5 (encStr s)] := by
  have v := hV s hs
  rw [hv] at v
  by_cases h : s.size < 256
  · have a := (apN [161, UInt8.ofNat s.size] 2 (by simp) (by simp)).anyG gU
    have b := apStr [161, UInt8.ofNat s.size] s (by simp) hs
    have w := wrU8 s.size h
    have e : encStr s = [161, UInt8.ofNat s.size] ++ s.data.toList := by simp [encStr, headS, h]
    rw [e]
    refine s35a s s.size ([161, UInt8.ofNat s.size] ++ s.data.toList) ?_
    simp only [AllP, leAll, w, Int.toNat_natCast]
    refine ⟨b, ⟨Le.refl _, Le.refl _, trivial⟩, ⟨RowLe.refl _, RowLe.refl _, trivial⟩, a, ⟨Le.refl _, Le.refl _, trivial⟩, ⟨RowLe.refl _, RowLe.refl _, trivial⟩, ⟨by omega, by omega⟩, ⟨by omega, by omega⟩, by simp; omega, trivial, v, ⟨Le.refl _, trivial⟩, trivial, trivial⟩
  · have a : ACalls Tryd.prog gU 47 [.ptr 0 0, .lit (.int .u8 177)] [bufRow (.lit (.slice none 0 0))] (.tup []) [bufRow (.own 1 0 1 none), .bytes 5 [177]] := ((abn 177 (by simp [AllP])).cast rfl rfl rfl (by simp [bufRow])).anyG gU
    have w : IntKind.u32.wrap (s.size : Int) = s.size := by rw [wrapU32]; omega
    have w2 : IntKind.u64.wrap (s.size : Int) = s.size := by rw [wrapU64]; omega
    have hh : headS s.size = [177, UInt8.ofNat (s.size / 16777216), UInt8.ofNat (s.size / 65536 % 256), UInt8.ofNat (s.size / 256 % 256), UInt8.ofNat (s.size % 256)] := by simp [headS, h]
    have b : ACalls Tryd.prog gU 37 [.ptr 0 0, .lit (.int .u32 s.size)] [bufRow (.own 1 0 1 none), .bytes 5 [177]] (.tup []) [bufRow (.own 2 0 (headS s.size).length none), .gone, .bytes 5 (headS s.size)] := by
      refine ACalls.anyG gU ?_
      have f1 : (s.size : Int).fdiv 256 = ((s.size / 256 : Nat) : Int) := by rw [Int.fdiv_eq_ediv_of_nonneg _ (by omega)]; omega
      have f2 : (s.size : Int).fdiv 65536 = ((s.size / 65536 : Nat) : Int) := by rw [Int.fdiv_eq_ediv_of_nonneg _ (by omega)]; omega
      have f3 : (s.size : Int).fdiv 16777216 = ((s.size / 16777216 : Nat) : Int) := by rw [Int.fdiv_eq_ediv_of_nonneg _ (by omega)]; omega
      have g1 : IntKind.u8.wrap ((s.size / 256 : Nat) : Int) = ((s.size / 256 % 256 : Nat) : Int) := by rw [wrapU8]; omega
      have g2 : IntKind.u8.wrap ((s.size / 65536 : Nat) : Int) = ((s.size / 65536 % 256 : Nat) : Int) := by rw [wrapU8]; omega
      have g3 : IntKind.u8.wrap ((s.size / 16777216 : Nat) : Int) = ((s.size / 16777216 : Nat) : Int) := by rw [wrapU8]; omega
      have g4 : IntKind.u8.wrap (s.size : Int) = ((s.size % 256 : Nat) : Int) := by rw [wrapU8]; omega
      have e := a4o [177] s.size
      rw [f1, f2, f3, g1, g2, g3, g4] at e
      simp only [Int.toNat_natCast] at e
      refine (e ?_).cast rfl rfl rfl (by rw [hh]; simp [bufRow])
      simp only [AllP]
      refine ⟨by omega, by simp, ⟨by omega, by omega⟩, ⟨by omega, by omega⟩, ⟨by omega, by omega⟩, ⟨by omega, by omega⟩, by omega, by omega, by omega, trivial⟩
    have c := apStr (headS s.size) s (by rw [hh]; simp) hs
    have e : encStr s = headS s.size ++ s.data.toList := rfl
    rw [e]
    refine s35b s s.size (headS s.size) (headS s.size ++ s.data.toList) ?_
    simp only [AllP, leAll, w, w2]
    refine ⟨c, ⟨Le.refl _, Le.refl _, trivial⟩, ⟨RowLe.refl _, RowLe.refl _, trivial⟩, b, ⟨Le.refl _, Le.refl _, trivial⟩, ⟨RowLe.refl _, RowLe.refl _, trivial⟩, a, ⟨Le.refl _, Le.refl _, trivial⟩, ⟨RowLe.refl _, trivial⟩, by simp; omega, by simp; omega, trivial, v, ⟨Le.refl _, trivial⟩, trivial, trivial⟩

omit hV in
theorem encStr_len (s : ByteArray) (hs : s.size ≤ 131072) : 0 < (encStr s).length ∧ (encStr s).length ≤ 1000000 := by
  have hl := size_len s
  unfold encStr headS
  split <;> simp [hl] <;> omega

theorem writeString (s : ByteArray) (hs : s.size ≤ 131072) (hv : Lib.validD s.data.toList = true) : ACalls Tryd.prog gU 9 [.lit (.string s)] [] (.tup [.bts (encStr s), .lit (.bool true)]) [] := by
  have hl := encStr_len s hs
  have a := s23v s (encStr s) (by
    have := writeStr hV s hs hv
    simp only [AllP, leAll]
    exact ⟨this, ⟨Le.refl _, Le.refl _, trivial⟩, ⟨RowLe.refl _, trivial⟩, trivial⟩)
  have b := ((w20 (encStr s) (by simp [AllP])).cast rfl rfl (show _ = AV.own 1 0 (encStr s).length none by simp) rfl).anyG gU
  have c : ACalls Tryd.prog gU 19 [.own 0 0 (encStr s).length none] [.bytes 5 (encStr s)] (.own 1 0 (encStr s).length none) [.bytes 5 (encStr s), .bytes 5 (encStr s)] := ((w19 (encStr s) (by simp [AllP]; omega)).cast rfl rfl (by simp) (by simp)).anyG gU
  have e := s9v s (encStr s) (by
    simp only [AllP, leAll]
    exact ⟨by omega, by omega, c, ⟨Le.refl _, trivial⟩, ⟨RowLe.refl _, trivial⟩, b, ⟨Le.refl _, trivial⟩, ⟨RowLe.refl _, RowLe.refl _, trivial⟩, trivial, a, ⟨Le.refl _, Le.refl _, trivial⟩, ⟨RowLe.refl _, trivial⟩, noDataIdle, trivial⟩)
  have h2 := (e.freezeRet 0 rfl rfl).only [] (by rfl)
  exact h2.cast rfl rfl (by simp [AV.frz, AV.frzL, frzOwn, AV.ren, AV.renL, List.take_of_length_le]) rfl

theorem writeBad (s : ByteArray) (hs : s.size ≤ 131072) (hv : Lib.validD s.data.toList = false) : ACalls Tryd.prog gU 9 [.lit (.string s)] [] (.tup [.lit (.slice none 0 0), .lit (.bool false)]) [] := by
  have v := hV s hs
  rw [hv] at v
  have a := s35i s _ (by
    simp only [AllP, leAll]
    exact ⟨e52 _ trivial, ⟨Le.refl _, trivial⟩, trivial, trivial, v, ⟨Le.refl _, trivial⟩, trivial, trivial⟩)
  have b := s23i s _ (by
    simp only [AllP, leAll]
    exact ⟨a, ⟨Le.refl _, Le.refl _, trivial⟩, ⟨RowLe.refl _, trivial⟩, trivial⟩)
  exact s9i s _ (by
    simp only [AllP, leAll]
    exact ⟨by omega, by omega, trivial, b, ⟨Le.refl _, Le.refl _, trivial⟩, ⟨RowLe.refl _, trivial⟩, noDataIdle, trivial⟩)

omit hV in
theorem kind161 : ACalls Tryd.prog gU 48 [.lit (.int .i64 161)] [] (.tup [.lit (.int .i64 19), .lit (.int .i64 1), .lit (.bool true)]) [] := k48_161 (by simp [AllP])
omit hV in
theorem kind177 : ACalls Tryd.prog gU 48 [.lit (.int .i64 177)] [] (.tup [.lit (.int .i64 19), .lit (.int .i64 4), .lit (.bool true)]) [] := k48_177 (by simp [AllP])
omit hV in
theorem bigR (d e : List UInt8) (k n : Nat) (h1 : d.length = k) (h2 : k < 1000) (h3 : bigA 0 d = n) : ACalls Tryd.prog gU 49 [.bts (d ++ e), .lit (.int .i64 k)] [] (.tup [.lit (.int .u64 n), .bts e, .lit (.bool true)]) [] := by
  subst h1; subst h3
  exact ((takeBig (d ++ e) d.length (by simp) h2).cast rfl rfl (by simp) rfl).anyG gU

omit hV in
theorem tk1 (c : UInt8) (l : List UInt8) : List.drop 1 (List.take (l.length + 1) (c :: l)) = l := by simp
omit hV in
theorem dropAll (l : List UInt8) (n : Nat) (h : l.length = n) : List.drop n l = [] := List.drop_eq_nil_of_le (Nat.le_of_eq h)

omit hV in
theorem k33of (c : UInt8) (l : List UInt8) (n : Int) (h0 : c.toNat ≠ 0) (hn : IntKind.i64.wrap (c.toNat : Int) = n) (hl : l.length ≤ 1000000) : ACalls Tryd.prog gU 33 [.bts (c :: l), .lit (.int .i64 8)] [] (.tup [.agg [.lit (.slice none 0 0), .lit (.int .i64 n)], .bts l, .lit (.bool true)]) [] := by
  have e := k33 c l (by simp [AllP]; omega)
  subst hn
  refine (e.cast rfl rfl ?_ rfl).anyG gU
  show AV.tup [_, .bts (List.drop 1 (List.take (l.length + 1) (c :: l))), _] = _
  rw [tk1]
  rfl

theorem takeStr (s : ByteArray) (hs : s.size ≤ 131072) (hv : Lib.validD s.data.toList = true) : ACalls Tryd.prog gU 21 [.bts (encStr s), .lit (.int .i64 8)] [] (.tup [spackA 19 s, .bts [], .lit (.bool true)]) [] := by
  have v := hV s hs
  rw [hv] at v
  have hl := size_len s
  have hb : (ByteArray.mk s.data.toList.toArray) = s := by cases s; simp
  have w : IntKind.u64.wrap (s.size : Int) = s.size := by rw [wrapU64]; omega
  by_cases h : s.size < 256
  · have e : encStr s = 161 :: ([UInt8.ofNat s.size] ++ s.data.toList) := by simp [encStr, headS, h]
    have b := bigR [UInt8.ofNat s.size] s.data.toList 1 s.size rfl (by omega) (by simp [bigA, UInt8.toNat_ofNat']; omega)
    have t := s34_161 ([UInt8.ofNat s.size] ++ s.data.toList) s.data.toList s.size s (by
      simp only [AllP, leAll, hl, w, Int.toNat_natCast, Int.toNat_zero, List.drop_zero, List.take_of_length_le (Nat.le_of_eq hl), hb]
      simp
      exact ⟨v, by simpa using b, kind161⟩)
    simp only [hl, Int.toNat_natCast, Int.toNat_zero, List.drop_zero, List.take_of_length_le (Nat.le_of_eq hl), hb, dropAll _ _ hl] at t
    have c := k33of 161 ([UInt8.ofNat s.size] ++ s.data.toList) 161 (by decide) (by decide) (by simp; omega)
    rw [e]
    exact s21 161 (161 :: ([UInt8.ofNat s.size] ++ s.data.toList)) ([UInt8.ofNat s.size] ++ s.data.toList) s (by
      simp only [AllP, leAll]
      first
        | exact ⟨by omega, t, ⟨Le.refl _, Le.refl _, Le.refl _, trivial⟩, trivial, trivial, by omega, c, ⟨Le.refl _, Le.refl _, trivial⟩, trivial, by omega, trivial⟩
        | (simp; exact ⟨by simpa using t, by simpa using c⟩))
  · have e : encStr s = 177 :: ([UInt8.ofNat (s.size / 16777216), UInt8.ofNat (s.size / 65536 % 256), UInt8.ofNat (s.size / 256 % 256), UInt8.ofNat (s.size % 256)] ++ s.data.toList) := by simp [encStr, headS, h]
    have b := bigR [UInt8.ofNat (s.size / 16777216), UInt8.ofNat (s.size / 65536 % 256), UInt8.ofNat (s.size / 256 % 256), UInt8.ofNat (s.size % 256)] s.data.toList 4 s.size rfl (by omega) (by simp [bigA, UInt8.toNat_ofNat']; omega)
    generalize hd : [UInt8.ofNat (s.size / 16777216), UInt8.ofNat (s.size / 65536 % 256), UInt8.ofNat (s.size / 256 % 256), UInt8.ofNat (s.size % 256)] = hd4 at *
    have hl4 : hd4.length = 4 := by rw [← hd]; rfl
    have t := s34_177 (hd4 ++ s.data.toList) s.data.toList s.size s (by
      simp only [AllP, leAll, hl, w, Int.toNat_natCast, Int.toNat_zero, List.drop_zero, List.take_of_length_le (Nat.le_of_eq hl), hb]
      simp
      exact ⟨v, by simpa using b, kind177⟩)
    simp only [hl, Int.toNat_natCast, Int.toNat_zero, List.drop_zero, List.take_of_length_le (Nat.le_of_eq hl), hb, dropAll _ _ hl] at t
    have c := k33of 177 (hd4 ++ s.data.toList) 177 (by decide) (by decide) (by simp; omega)
    rw [e]
    exact s21 177 (177 :: (hd4 ++ s.data.toList)) (hd4 ++ s.data.toList) s (by
      simp only [AllP, leAll]
      first
        | exact ⟨by omega, t, ⟨Le.refl _, Le.refl _, Le.refl _, trivial⟩, trivial, trivial, by omega, c, ⟨Le.refl _, Le.refl _, trivial⟩, trivial, by omega, trivial⟩
        | (simp; exact ⟨by simpa using t, by simpa using c⟩))

omit hV in
theorem sameS (k : Int) (s : ByteArray) : ACalls Tryd.prog gU 22 [spackA k s, spackA k s] [] (.lit (.bool true)) [] := by
  have l := (LoopC.exit (sl22 k s (by simp [AllP])) (by simp)).code
  exact s22 k s (by simp [AllP]; exact l)

omit hV in
theorem wroteS (k : Int) (s : ByteArray) (d : List UInt8) (h : ACalls Tryd.prog gU 21 [.bts d, .lit (.int .i64 8)] [] (.tup [spackA k s, .bts [], .lit (.bool true)]) []) : ACalls Tryd.prog gU 8 [.bts d, .lit (.bool true), spackA k s] [] (.lit (.bool true)) [] := by
  have r := sameS k s
  exact s8 k s d (by simp [AllP, leAll]; exact ⟨r, h⟩)

theorem fnWriteString (s : ByteArray) : ACalls Tryd.prog gU 4 [.lit (.string s)] [] (.lit (.bool true)) [] := by
  by_cases h0 : s.size > 2147483647
  · exact s4a s (by simp only [AllP]; exact ⟨by simp; omega, trivial⟩)
  · have ev : Lib.validD (ByteArray.mk #[97]).data.toList = true := by decide
    have wa := writeString hV (ByteArray.mk #[97]) (by decide) ev
    have ta := wroteS 19 (ByteArray.mk #[97]) (encStr (ByteArray.mk #[97])) (takeStr hV (ByteArray.mk #[97]) (by decide) ev)
    have ea : encStr (ByteArray.mk #[97]) = [161, 1, 97] := by decide
    rw [ea] at wa ta
    have d0 : Decidable.decide ((↑s.size : Int) > (2147483647 : Int)) = Bool.false := by simp; omega
    have sh := s10 s trivial
    by_cases h1 : s.size ≤ 131072
    · have e1 : Decidable.decide ((↑s.size : Int) ≤ (131072 : Int)) = true := by simp; omega
      rw [e1] at sh
      have v := hV s h1
      cases hv : Lib.validD s.data.toList with
      | false =>
        rw [hv] at v
        have w := writeBad hV s h1 hv
        exact s4c s (by
          simp only [AllP, leAll]
          exact ⟨trivial, trivial, v, ⟨Le.refl _, trivial⟩, trivial, w, ⟨Le.refl _, trivial⟩, trivial, trivial, sh, ⟨Le.refl _, trivial⟩, trivial, ta, ⟨Le.refl _, Le.refl _, Le.refl _, trivial⟩, trivial, wa, ⟨Le.refl _, trivial⟩, trivial, d0, trivial⟩)
      | true =>
        rw [hv] at v
        have w := writeString hV s h1 hv
        have t := wroteS 19 s (encStr s) (takeStr hV s h1 hv)
        exact s4d s (encStr s) (by
          simp only [AllP, leAll]
          exact ⟨trivial, t, ⟨Le.refl _, Le.refl _, Le.refl _, trivial⟩, trivial, trivial, v, ⟨Le.refl _, trivial⟩, trivial, w, ⟨Le.refl _, trivial⟩, trivial, trivial, sh, ⟨Le.refl _, trivial⟩, trivial, ta, ⟨Le.refl _, Le.refl _, Le.refl _, trivial⟩, trivial, wa, ⟨Le.refl _, trivial⟩, trivial, d0, trivial⟩)
    · have e1 : Decidable.decide ((↑s.size : Int) ≤ (131072 : Int)) = false := by simp; omega
      rw [e1] at sh
      exact s4b s (by
        simp only [AllP, leAll]
        exact ⟨trivial, sh, ⟨Le.refl _, trivial⟩, trivial, ta, ⟨Le.refl _, Le.refl _, Le.refl _, trivial⟩, trivial, wa, ⟨Le.refl _, trivial⟩, trivial, d0, trivial⟩)
end
end Go.Ax
