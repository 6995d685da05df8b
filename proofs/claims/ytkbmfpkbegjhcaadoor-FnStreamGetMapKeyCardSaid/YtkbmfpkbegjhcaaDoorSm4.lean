/-
  A stream's source: source.more, Next, Skip, Peek, PeekByte, by contracts.
-/
import Derived.Test.YtkbmfpkbegjhcaaDoorSm3
set_option linter.unusedVariables false
set_option linter.unusedSimpArgs false
set_option maxRecDepth 100000
namespace Go.Ax
open Go.Proofs

theorem Held.len {T z g o r l p : Nat} {bf dat s : List UInt8} (S : Held T z g o r l p bf dat s) : l - p + (dat.length - o) = s.length := by
  have := congrArg List.length S.hs
  simp at this
  have := S.hl
  omega

theorem toP {f : FuncId} {args : List AV} {z g o r l p o2 r2 l2 p2 : Nat} {bf bf2 dat : List UInt8} {ret : AV} (h : A0 f args (rowsO z g o r l p bf dat) ret (rowsO z g o2 r2 l2 p2 bf2 dat)) :
    A0 f args (rowsO z g o r l p bf dat) (ret.ren (idxM [some 0, some 1, none, none, some 2, some 3] 0)) (rowsP z g o2 r2 l2 p2 bf2 dat) :=
  h.pack [some 0, some 1, none, none, some 2, some 3] rfl

/-- source.more: so many bytes are there. -/
theorem moreO {T z g o r l p : Nat} {bf dat s : List UInt8} (S : Held T z g o r l p bf dat s) (n : Nat) (hn : n ≤ s.length) :
    ∃ o2 r2 l2 p2 bf2, Held T z g o2 r2 l2 p2 bf2 dat s ∧ n ≤ l2 - p2 ∧ A0 132 [.ptr 0 0, iL n] (rowsO z g o r l p bf dat) (.tup []) (rowsP z g o2 r2 l2 p2 bf2 dat) := by
  have b1 := S.hT
  have b2 := S.hT2
  have b3 := S.hz
  have b4 := S.hl
  have b5 := S.hb
  have b6 := S.hr
  have b7 := S.hg
  have b8 := S.hd
  have b9 := S.hp
  have w1 : IntKind.i64.wrap ((l : Int) - p) = ((l - p : Nat) : Int) := by rw [wrap64 (by omega) (by omega)]; omega
  by_cases hc : n ≤ l - p
  · refine ⟨o, r, l, p, bf, S, hc, toP (ret := .tup []) ?_⟩
    refine me z g n l p o r bf dat ?_
    have d1 : decide (((l - p : Nat) : Int) ≥ (n : Int)) = true := by simp; omega
    simp only [AllP, w1, d1]
    simp
  · have f1 : (List.take (l - p) (List.drop p bf)).length = l - p := by simp; omega
    generalize hb1 : List.take (l - p) (List.drop p bf) ++ List.drop (l - p) bf = bf1
    have hlen1 : bf1.length = bf.length := by rw [← hb1]; simp; omega
    have ht1 : List.take (l - p) bf1 = List.drop p (List.take l bf) := by
      rw [← hb1, List.take_append_of_le_length (by omega), List.take_of_length_le (by omega), List.drop_take]
    have S1 : Held T z g o r (l - p) 0 bf1 dat s := by
      refine ⟨b1, b2, b3, b7, b6, b8, Nat.zero_le _, by omega, by omega, ?_⟩
      rw [List.drop_zero, ht1]
      exact S.hs
    obtain ⟨o2, r2, l2, bf2, S2, h2, L⟩ := moreL z g T n dat s hn _ o r (l - p) bf1 S1 rfl
    refine ⟨o2, r2, l2, 0, bf2, S2, by omega, ?_⟩
    have C := L.code [some 0, some 1, none, none, some 2, some 3] (by rfl) (by rfl)
    refine (mo z g o r l p o2 r2 l2 0 bf bf2 dat n (l - p) bf1 ?_).cast rfl rfl rfl rfl
    have d1 : decide (((l - p : Nat) : Int) ≥ (n : Int)) = false := by simp; omega
    have m1 : Min.min (List.take (l - p) (List.drop p bf)).length l = l - p := by rw [f1]; omega
    simp only [AllP, w1, d1, Int.toNat_natCast, Nat.mul_one, Nat.zero_add, m1, Nat.sub_zero, List.take_zero, List.nil_append]
    have t1 : List.take (l - p) (List.take (l - p) (List.drop p bf)) = List.take (l - p) (List.drop p bf) := by rw [List.take_take, Nat.min_self]
    rw [t1, hb1, hlen1]
    refine ⟨C.cast rfl (by rw [← hlen1]; rfl) rfl rfl, ⟨Le.refl _, Le.refl _, trivial⟩, ⟨RowLe.refl _, RowLe.refl _, RowLe.refl _, RowLe.refl _, trivial⟩, by omega, by omega, ⟨by omega, by omega, .inl (by omega)⟩, ⟨by omega, by omega, .inl (by omega)⟩, rfl, trivial, trivial, trivial, trivial, trivial, trivial⟩

theorem moreN (T z g : Nat) (dat : List UInt8) (hT : dat.length ≤ T) (hT2 : T ≤ 1000000000000) (hz : 16 ≤ z ∧ z ≤ 65536) (hg : 1 ≤ g ∧ g ≤ 65536) (n : Nat) (h1 : 1 ≤ n) (hn : n ≤ dat.length) :
    ∃ o2 r2 l2 p2 bf2, Held T z g o2 r2 l2 p2 bf2 dat dat ∧ n ≤ l2 - p2 ∧ A0 132 [.ptr 0 0, iL n] (rowsN z g 0 dat.length dat) (.tup []) (rowsQ z g o2 r2 l2 p2 bf2 dat) := by
  obtain ⟨m, m1, m2, m3, hm⟩ := readC 0 z 0 dat.length g (List.replicate z 0) dat hg.1 (by omega) (by omega) (by omega) (by simp)
  simp only [Nat.zero_add, List.take_zero, List.nil_append, List.drop_zero] at hm
  have hb2 : (dat.take m ++ List.drop m (List.replicate z (0 : UInt8))).length = z := by simp; omega
  have S2 : Held T z g m (dat.length - m) m 0 (dat.take m ++ List.drop m (List.replicate z 0)) dat dat := by
    refine ⟨hT, hT2, hz, hg, by omega, by omega, by omega, by rw [hb2]; omega, by rw [hb2]; omega, ?_⟩
    rw [List.drop_zero, List.take_append_of_le_length (by simp; omega), List.take_of_length_le (by simp; omega), List.take_append_drop]
  obtain ⟨o2, r2, l2, bf2, S3, h3, L⟩ := moreL z g T n dat dat hn _ m (dat.length - m) m _ S2 rfl
  refine ⟨o2, r2, l2, 0, bf2, S3, by omega, ?_⟩
  have w1 : IntKind.i64.wrap ((0 : Int) + m) = (m : Int) := by rw [wrap64 (by omega) (by omega)]; omega
  have w2 : IntKind.i64.wrap ((0 : Int) + z) = (z : Int) := by rw [wrap64 (by omega) (by omega)]; omega
  have w3 : IntKind.i64.wrap ((2 : Int) * 0) = 0 := by decide
  have w4 : IntKind.i64.wrap ((2 : Int) * ((0 : Nat) : Int)) = 0 := by decide
  have e := mln g n z 0 dat.length m (dat.length - m) m (List.replicate z 0) (dat.take m ++ List.drop m (List.replicate z 0)) dat (by
    have d1 : decide ((0 : Int) < (z : Int)) = true := by simp; omega
    have d2 : decide ((0 : Int) < (n : Int)) = true := by simp; omega
    simp only [AllP, w1, w2, w3, w4, d1, d2, Nat.zero_add, Nat.mul_one, Int.toNat_natCast, Nat.sub_zero, leAll, List.take_zero, List.nil_append, List.drop_zero]
    refine ⟨by omega, by omega, ⟨by omega, by omega, .inr ⟨z, rfl, by omega, by rw [hb2]; omega⟩⟩, hm, ⟨Le.refl _, Le_cap _ _ _ _, trivial⟩, ⟨RowLe.refl _, RowLe.refl _, RowLe.refl _, trivial⟩,
      ⟨by omega, by omega, .inr ⟨z, rfl, by omega, by simp⟩⟩, by omega, ⟨by omega, by omega, by omega⟩, trivial, rfl, trivial, trivial, trivial, trivial, trivial, trivial⟩)
  simp only [w1, w2, Int.toNat_natCast, Nat.sub_zero] at e
  have L2 : LoopK Tryd.prog noG 2 143 (loopAt Tryd.f132 0) [(0, .ptr 0 0), (1, iL n)] (rowsN z g 0 dat.length dat) (.exit 0) [(0, .ptr 0 0), (1, iL n)] (rowsO z g o2 r2 l2 0 bf2 dat) := by
    refine LoopK.step [some 0, some 1, some 3, some 2] e (by rfl) ?_
    refine L.cast rfl ?_ rfl rfl
    rw [rowsO, hb2]
    rfl
  have C := L2.code [some 0, some 1, none, some 2, some 3] (by rfl) (by rfl)
  refine (mn z g 0 dat.length o2 r2 l2 0 bf2 dat n ?_).cast rfl rfl rfl rfl
  have d3 : decide ((0 : Int) ≥ (n : Int)) = false := by simp; omega
  simp only [AllP, leAll]
  simp [d3]
  exact ⟨C, by omega⟩
end Go.Ax
