/-
  msgp.AppendInt64 of a number of 32 bits, joined.
-/
import Derived.Test.YtmaofopbhlcgkaaInC
set_option linter.unusedVariables false
set_option linter.unusedSimpArgs false
set_option maxRecDepth 100000
namespace Go.Ax
open Go.Proofs

theorem appendInt (bs : List UInt8) (v : Int) (h : bs.length ≤ maxN) (h0 : -2147483648 ≤ v) (hv : v < 2147483648) :
    ACalls Try.prog noG 64 [.own 0 0 bs.length none, .lit (.int .i64 v)] [.bytes 5 bs] (.own 1 0 (bs.length + (encI v).length) none) [.gone, .bytes 5 (bs ++ encI v)] := by
  have hm : maxN = 1000000000000 := rfl
  have c3 := ensureL bs 3 [.dead, .dead, .dead] rfl h (by omega)
  have c5 := ensureL bs 5 [.dead, .dead, .dead, .dead, .dead] rfl h (by omega)
  have p3 := put16i bs v
  have p5 := put32i bs v
  have w5 := wrap32 h0 hv
  have r3 : (([.lit (.int .u8 209), .lit (.int .u8 (v / 256 % 256)), .lit (.int .u8 (v % 256))] : List AV)) = (enc3 v).map u8 := by
    simp only [enc3, List.map_cons, List.map_nil, ← lit_byte]; rfl
  have r5 : (([.lit (.int .u8 210), .lit (.int .u8 (v / 16777216 % 256)), .lit (.int .u8 (v / 65536 % 256)), .lit (.int .u8 (v / 256 % 256)), .lit (.int .u8 (v % 256))] : List AV)) = (enc5 v).map u8 := by
    simp only [enc5, List.map_cons, List.map_nil, ← lit_byte]; rfl
  by_cases g0 : 0 ≤ v
  · by_cases g1 : v ≤ 127
    · have h7 := fix7 v g0 g1
      have w : IntKind.u8.wrap v = v := by rw [wrapU8]; omega
      have e := i64a bs v (by simp [AllP, leAll, h7, w]; omega)
      refine e.cast rfl rfl (by simp [encI, g0, g1]) ?_
      have : v % 256 = v := by omega
      simp [encI, g0, g1, byteI, this]
    · by_cases g2 : v ≤ 32767
      · have w := wrap16 (v := v) (by omega) (by omega)
        have e := i64b bs v (by
          simp only [AllP, leAll, w, renL_behind, AV.renL, AV.ren, Int.toNat_natCast, Nat.mul_one, Nat.zero_add, Nat.add_sub_cancel_left]
          refine ⟨p3, ⟨Le.refl _, Le.refl _, trivial⟩, ⟨RowLe.refl _, trivial⟩, ⟨by omega, by omega, .inl (Int.le_refl _)⟩, c3, ⟨Le.refl _, Le.refl _, trivial⟩, ⟨RowLe.refl _, trivial⟩, by simp; omega, by simp; omega, by simp; omega, trivial⟩)
        simp only [renL_behind, AV.renL, AV.ren] at e
        exact lastStep (enc := encI v) (by rw [r3]; simp [encI, g0, g1, g2]) (by simp [encI, g0, g1, g2, enc3]) e
      · have e := i64c bs v (by
          simp only [AllP, leAll, w5, renL_behind, AV.renL, AV.ren, Int.toNat_natCast, Nat.mul_one, Nat.zero_add, Nat.add_sub_cancel_left]
          refine ⟨p5, ⟨Le.refl _, Le.refl _, trivial⟩, ⟨RowLe.refl _, trivial⟩, ⟨by omega, by omega, .inl (Int.le_refl _)⟩, c5, ⟨Le.refl _, Le.refl _, trivial⟩, ⟨RowLe.refl _, trivial⟩, by simp; omega, by simp; omega, by simp; omega, by simp; omega, trivial⟩)
        simp only [renL_behind, AV.renL, AV.ren] at e
        exact lastStep (enc := encI v) (by rw [r5]; simp [encI, g0, g1, g2]) (by simp [encI, g0, g1, g2, enc5]) e
  · by_cases g1 : -32 ≤ v
    · have h7 := fixNeg v g1 (by omega)
      have w := wrap8 (v := v) (by omega) (by omega)
      have e := i64e bs v (v % 256) (by simp [AllP, leAll, h7, w]; omega)
      exact e.cast rfl rfl (by simp [encI, g0, g1]) (by simp [encI, g0, g1, byteI])
    · by_cases g2 : -128 ≤ v
      · have w := wrap8 (v := v) (by omega) (by omega)
        have c2 := ensureL bs 2 [.dead, .dead] rfl h (by omega)
        have p2 := put8i bs v
        have e := i64f bs v (by
          simp only [AllP, leAll, w, renL_behind, AV.renL, AV.ren, Int.toNat_natCast, Nat.mul_one, Nat.zero_add, Nat.add_sub_cancel_left]
          refine ⟨p2, ⟨Le.refl _, Le.refl _, trivial⟩, ⟨RowLe.refl _, trivial⟩, ⟨by omega, by omega, .inl (Int.le_refl _)⟩, c2, ⟨Le.refl _, Le.refl _, trivial⟩, ⟨RowLe.refl _, trivial⟩, by simp; omega, by simp; omega, by simp; omega, trivial⟩)
        simp only [renL_behind, AV.renL, AV.ren] at e
        refine lastStep (enc := encI v) ?_ (by simp [encI, g0, g1, g2]) e
        simp only [encI, if_neg g0, if_neg g1, if_pos g2, List.map_cons, List.map_nil, ← lit_byte]
        rfl
      · by_cases g3 : -32768 ≤ v
        · have w := wrap16 (v := v) (by omega) (by omega)
          have e := i64g bs v (by
            simp only [AllP, leAll, w, renL_behind, AV.renL, AV.ren, Int.toNat_natCast, Nat.mul_one, Nat.zero_add, Nat.add_sub_cancel_left]
            refine ⟨p3, ⟨Le.refl _, Le.refl _, trivial⟩, ⟨RowLe.refl _, trivial⟩, ⟨by omega, by omega, .inl (Int.le_refl _)⟩, c3, ⟨Le.refl _, Le.refl _, trivial⟩, ⟨RowLe.refl _, trivial⟩, by simp; omega, by simp; omega, by simp; omega, by simp; omega, trivial⟩)
          simp only [renL_behind, AV.renL, AV.ren] at e
          exact lastStep (enc := encI v) (by rw [r3]; simp [encI, g0, g1, g2, g3]) (by simp [encI, g0, g1, g2, g3, enc3]) e
        · have e := i64h bs v (by
            simp only [AllP, leAll, w5, renL_behind, AV.renL, AV.ren, Int.toNat_natCast, Nat.mul_one, Nat.zero_add, Nat.add_sub_cancel_left]
            refine ⟨p5, ⟨Le.refl _, Le.refl _, trivial⟩, ⟨RowLe.refl _, trivial⟩, ⟨by omega, by omega, .inl (Int.le_refl _)⟩, c5, ⟨Le.refl _, Le.refl _, trivial⟩, ⟨RowLe.refl _, trivial⟩, by simp; omega, by simp; omega, by simp; omega, by simp; omega, by simp; omega, trivial⟩)
          simp only [renL_behind, AV.renL, AV.ren] at e
          exact lastStep (enc := encI v) (by rw [r5]; simp [encI, g0, g1, g2, g3]) (by simp [encI, g0, g1, g2, g3, enc5]) e
end Go.Ax
