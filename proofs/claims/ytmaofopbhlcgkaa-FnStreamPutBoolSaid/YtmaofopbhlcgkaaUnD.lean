/-
  msgp.AppendUint64 of a number below 2^32, joined.
-/
import Derived.Test.YtmaofopbhlcgkaaUnC
set_option linter.unusedVariables false
set_option linter.unusedSimpArgs false
set_option maxRecDepth 100000
namespace Go.Ax
open Go.Proofs

theorem ensureL (bs : List UInt8) (n : Nat) (l : List AV) (hl : l = List.replicate n .dead) (h : bs.length ≤ maxN) (hn : n ≤ maxN) :
    ACalls Try.prog noG 51 [.own 0 0 bs.length none, .lit (.int .i64 n)] [.bytes 5 bs] (.tup [.own 1 0 (bs.length + n) none, .lit (.int .i64 bs.length)]) [.gone, .cells 5 1 (bs.map u8 ++ l)] := by
  subst hl
  exact ensure bs n h hn

/-- The last step of each way: the cells are bytes. -/
theorem lastStep {f : FuncId} {args : List AV} {bs enc : List UInt8} {l : List AV} {k : Nat} (hl : l = enc.map u8) (hk : enc.length = k) (h : ACalls Try.prog noG f args [.bytes 5 bs] (.own 1 0 (bs.length + k) none) [.gone, .cells 5 1 (bs.map u8 ++ l)]) :
    ACalls Try.prog noG f args [.bytes 5 bs] (.own 1 0 (bs.length + enc.length) none) [.gone, .bytes 5 (bs ++ enc)] := by
  subst hl; subst hk
  have h1 : [Row.gone, Row.cells 5 1 (bs.map u8 ++ enc.map u8)] = [Row.gone, Row.cells 5 1 ((bs ++ enc).map u8)] := by simp
  rw [h1] at h
  refine h.asBytes 1 (bs ++ enc) (by simp) rfl (fun _ => by simp) fun x hx => ?_
  simp at hx
  rcases hx with rfl | rfl
  · exact ⟨True.intro, True.intro⟩
  · refine ⟨?_, True.intro⟩
    have := fitL_u8 1 (bs ++ enc).length 1 (bs ++ enc)
    simpa [Row.cs] using this

theorem appendUint (bs : List UInt8) (v : Nat) (h : bs.length ≤ maxN) (hv : v < 4294967296) :
    ACalls Try.prog noG 60 [.own 0 0 bs.length none, .lit (.int .u64 v)] [.bytes 5 bs] (.own 1 0 (bs.length + (encU v).length) none) [.gone, .bytes 5 (bs ++ encU v)] := by
  have hm : maxN = 1000000000000 := rfl
  have hsub : ((bs.length + 2 : Nat) : Int).toNat - (bs.length : Int).toNat = 2 := by omega
  by_cases h1 : v ≤ 127
  · have h7 := fix7 v (by omega) (by omega)
    have w : IntKind.u8.wrap (v : Int) = v := by rw [wrapU8]; omega
    have e := u60a bs v v (by simp [AllP, leAll, h7, w]; omega)
    exact e.cast rfl rfl (by simp [encU, h1]) (by simp [encU, h1])
  · by_cases h2 : v ≤ 255
    · have w : IntKind.u8.wrap (v : Int) = v := by rw [wrapU8]; omega
      have e := u60b bs v (by
        have c1 := ensureL bs 2 [.dead, .dead] rfl h (by omega)
        have c2 := put8 bs v
        simp only [AllP, leAll, w, renL_behind, AV.renL, AV.ren, Int.toNat_natCast, Nat.mul_one, Nat.zero_add, Nat.add_sub_cancel_left]
        refine ⟨c2, ⟨Le.refl _, Le.refl _, trivial⟩, ⟨RowLe.refl _, trivial⟩, ⟨by omega, by omega, .inl (Int.le_refl _)⟩, c1, ⟨Le.refl _, Le.refl _, trivial⟩, ⟨RowLe.refl _, trivial⟩, by simp; omega, by simp; omega, trivial⟩)
      simp only [renL_behind, AV.renL, AV.ren] at e
      refine lastStep (enc := encU v) ?_ (by simp [encU, h1, h2]) e
      simp only [encU, if_neg h1, if_pos h2, List.map_cons, List.map_nil]
      rw [← lit_u8 v (by omega)]
      rfl
    · by_cases h3 : v ≤ 65535
      · have w : IntKind.u16.wrap (v : Int) = v := by simp only [IntKind.wrap, IntKind.bits, IntKind.signed]; simp; omega
        have e := u60c bs v (by
          have c1 := ensureL bs 3 [.dead, .dead, .dead] rfl h (by omega)
          have c2 := put16 bs v (by omega) (by omega)
          simp only [AllP, leAll, w, renL_behind, AV.renL, AV.ren, Int.toNat_natCast, Nat.mul_one, Nat.zero_add, Nat.add_sub_cancel_left]
          refine ⟨c2, ⟨Le.refl _, Le.refl _, trivial⟩, ⟨RowLe.refl _, trivial⟩, ⟨by omega, by omega, .inl (Int.le_refl _)⟩, c1, ⟨Le.refl _, Le.refl _, trivial⟩, ⟨RowLe.refl _, trivial⟩, by simp; omega, by simp; omega, by simp; omega, trivial⟩)
        simp only [renL_behind, AV.renL, AV.ren] at e
        refine lastStep (enc := encU v) ?_ (by simp [encU, h1, h2, h3]) e
        simp only [encU, if_neg h1, if_neg h2, if_pos h3, List.map_cons, List.map_nil]
        rw [← lit_u8 (v / 256) (by omega), ← lit_u8 (v % 256) (by omega)]
        rfl
      · have w : IntKind.u32.wrap (v : Int) = v := by simp only [IntKind.wrap, IntKind.bits, IntKind.signed]; simp; omega
        have e := u60d bs v (by
          have c1 := ensureL bs 5 [.dead, .dead, .dead, .dead, .dead] rfl h (by omega)
          have c2 := put32 bs v (by omega) (by omega)
          simp only [AllP, leAll, w, renL_behind, AV.renL, AV.ren, Int.toNat_natCast, Nat.mul_one, Nat.zero_add, Nat.add_sub_cancel_left]
          refine ⟨c2, ⟨Le.refl _, Le.refl _, trivial⟩, ⟨RowLe.refl _, trivial⟩, ⟨by omega, by omega, .inl (Int.le_refl _)⟩, c1, ⟨Le.refl _, Le.refl _, trivial⟩, ⟨RowLe.refl _, trivial⟩, by simp; omega, by simp; omega, by simp; omega, by simp; omega, trivial⟩)
        simp only [renL_behind, AV.renL, AV.ren] at e
        refine lastStep (enc := encU v) ?_ (by simp [encU, h1, h2, h3]) e
        simp only [encU, if_neg h1, if_neg h2, if_neg h3, List.map_cons, List.map_nil]
        rw [← lit_u8 (v / 16777216) (by omega), ← lit_u8 (v / 65536 % 256) (by omega), ← lit_u8 (v / 256 % 256) (by omega), ← lit_u8 (v % 256) (by omega)]
        rfl
end Go.Ax
