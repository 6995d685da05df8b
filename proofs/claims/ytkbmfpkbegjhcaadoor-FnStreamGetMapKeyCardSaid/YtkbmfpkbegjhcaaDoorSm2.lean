/-
  A stream's source: what reading it does.
-/
import Derived.Test.YtkbmfpkbegjhcaaDoorSm1
set_option linter.unusedVariables false
set_option linter.unusedSimpArgs false
set_option maxRecDepth 100000
namespace Go.Ax
open Go.Proofs

abbrev srcR (b l c p z : Nat) : Row := .cells 212 5 [.ifc 203 (.ptr 1 0), .own b 0 l (some c), iL p, iL z, nI]
abbrev srcN (z : Nat) : Row := .cells 212 5 [.ifc 203 (.ptr 1 0), nL, iL 0, iL z, nI]
abbrev drpR (x o r g : Nat) : Row := .cells 205 2 [.own x o r none, iL g]
/-- A source without a buffer; with one; with one, told behind what came in. -/
abbrev rowsN (z g o r : Nat) (dat : List UInt8) : List Row := [srcN z, drpR 2 o r g, .bytes 5 dat]
abbrev rowsO (z g o r l p : Nat) (bf dat : List UInt8) : List Row := [srcR 2 l bf.length p z, drpR 3 o r g, .bytes 5 bf, .bytes 5 dat]
abbrev rowsP (z g o r l p : Nat) (bf dat : List UInt8) : List Row := [srcR 4 l bf.length p z, drpR 5 o r g, .gone, .gone, .bytes 5 bf, .bytes 5 dat]
abbrev rowsQ (z g o r l p : Nat) (bf dat : List UInt8) : List Row := [srcR 3 l bf.length p z, drpR 4 o r g, .gone, .bytes 5 bf, .bytes 5 dat]

/-- What a source holds: the bytes that are still to come, T their most. -/
structure Held (T z g o r l p : Nat) (bf dat s : List UInt8) : Prop where
  hT : s.length ≤ T
  hT2 : T ≤ 1000000000000
  hz : 16 ≤ z ∧ z ≤ 65536
  hg : 1 ≤ g ∧ g ≤ 65536
  hr : o + r = dat.length
  hd : dat.length ≤ 1000000000000
  hp : p ≤ l
  hl : l ≤ bf.length
  hb : bf.length ≤ 2 * T + 3 * z
  hs : (bf.take l).drop p ++ dat.drop o = s

theorem readC (h z o r g : Nat) (bf dat : List UInt8) (hg : 1 ≤ g) (hz : 1 ≤ z) (hr : o + r = dat.length) (hr1 : 1 ≤ r) (hb : h + z ≤ bf.length) :
    ∃ m, 1 ≤ m ∧ m ≤ z ∧ m ≤ r ∧ A0 211 [.ptr 0 0, .own 1 h z none] [drpR 2 o r g, .bytes 5 bf, .bytes 5 dat] (.tup [iL m, nI])
      [drpR 2 (o + m) (r - m) g, .bytes 5 (bf.take h ++ (dat.drop o).take m ++ bf.drop (h + m)), .bytes 5 dat] := by
  have hk : (if (if (1 : Int) > (g : Int) then (1 : Int) else (g : Int)) < (r : Int) then if (1 : Int) > (g : Int) then (1 : Int) else (g : Int) else (r : Int)) = ((min g r : Nat) : Int) := by
    rw [if_neg (show ¬ ((1 : Int) > (g : Int)) by omega)]
    split <;> omega
  have hlen : (List.take (min g r) (List.drop o dat)).length = min g r := by simp; omega
  refine ⟨min (min g r) z, by omega, by omega, by omega, ?_⟩
  have e := rdp h z o r g bf dat (by
    simp only [hk, AllP, Nat.add_zero, Nat.sub_zero, Int.toNat_natCast, hlen]
    refine ⟨by omega, ⟨by omega, by omega, .inl (by omega)⟩, ⟨by omega, by omega, .inl (by omega)⟩, ?_, trivial⟩
    have : ¬ ((r : Int) = 0) := by omega
    simp; omega)
  simp only [hk, Nat.add_zero, Nat.sub_zero, Nat.mul_one, Int.toNat_natCast, hlen] at e
  refine e.cast rfl rfl rfl ?_
  rw [List.take_take, Nat.min_eq_left (Nat.min_le_left (min g r) z)]

/-- The loop of source.more: from a source with a buffer, laid at its start. -/
theorem moreL (z g T : Nat) (n : Nat) (dat s : List UInt8) (hn : n ≤ s.length) : ∀ (q o r l : Nat) (bf : List UInt8), Held T z g o r l 0 bf dat s → n - l = q →
    ∃ o' r' l' bf', Held T z g o' r' l' 0 bf' dat s ∧ n ≤ l' ∧ LoopK Tryd.prog noG 2 143 (loopAt Tryd.f132 0) [(0, .ptr 0 0), (1, iL n)] (rowsO z g o r l 0 bf dat) (.exit 0) [(0, .ptr 0 0), (1, iL n)] (rowsO z g o' r' l' 0 bf' dat) := by
  intro q
  induction q using Nat.strongRecOn with
  | _ q ih =>
    intro o r l bf S hq
    by_cases hge : n ≤ l
    · refine ⟨o, r, l, bf, S, hge, LoopK.exit ((mlx z g n l o r bf dat ?_).cast rfl rfl rfl rfl) (by simp)⟩
      have : decide ((l : Int) < (n : Int)) = false := by simp; omega
      simp only [AllP, this]
      simp
    · have hlt : decide ((l : Int) < (n : Int)) = true := by simp; omega
      have hs := S.hs
      have hlen : l + (dat.length - o) = s.length := by
        have := congrArg List.length hs
        simp at this
        have := S.hl
        omega
      have hr1 : 1 ≤ r := by have := S.hr; omega
      have b1 := S.hT
      have b2 := S.hT2
      have b3 := S.hz
      have b4 := S.hl
      have b5 := S.hb
      have b6 := S.hr
      have b7 := S.hg
      have b8 := S.hd
      have w1 : IntKind.i64.wrap ((bf.length : Int) - l) = ((bf.length - l : Nat) : Int) := by rw [wrap64 (by omega) (by omega)]; omega
      have w3 : IntKind.i64.wrap ((l : Int) + z) = ((l + z : Nat) : Int) := by rw [wrap64 (by omega) (by omega)]; omega
      by_cases hc : l + z ≤ bf.length
      · obtain ⟨m, m1, m2, m3, hm⟩ := readC l z o r g bf dat b7.1 (by omega) b6 hr1 hc
        have w2 : IntKind.i64.wrap ((l : Int) + m) = ((l + m : Nat) : Int) := by rw [wrap64 (by omega) (by omega)]; omega
        have hb2 : (bf.take l ++ (dat.drop o).take m ++ bf.drop (l + m)).length = bf.length := by simp; omega
        have S2 : Held T z g (o + m) (r - m) (l + m) 0 (bf.take l ++ (dat.drop o).take m ++ bf.drop (l + m)) dat s := by
          refine ⟨b1, b2, b3, b7, by omega, b8, by omega, by rw [hb2]; omega, by rw [hb2]; exact b5, ?_⟩
          rw [List.drop_zero, List.take_append_of_le_length (by simp; omega), List.take_of_length_le (by simp; omega)]
          rw [List.drop_zero] at hs
          rw [← hs, List.append_assoc, ← List.drop_drop, List.take_append_drop]
        obtain ⟨o', r', l', bf', S3, h3, L3⟩ := ih (n - (l + m)) (by omega) (o + m) (r - m) (l + m) _ S2 rfl
        refine ⟨o', r', l', bf', S3, h3, ?_⟩
        have e := mls g n z l o r (o + m) (r - m) m bf (bf.take l ++ (dat.drop o).take m ++ bf.drop (l + m)) dat (by
          have d1 : decide (((bf.length - l : Nat) : Int) < (z : Int)) = false := by simp; omega
          simp only [AllP, w1, w2, w3, hlt, d1, Nat.zero_add, Nat.mul_one, Int.toNat_natCast, Nat.add_sub_cancel_left, leAll]
          refine ⟨by omega, by omega, ⟨by omega, by omega, .inr ⟨bf.length, rfl, by omega, by rw [hb2]; omega⟩⟩, hm, ⟨Le.refl _, Le_cap _ _ _ _, trivial⟩, ⟨RowLe.refl _, RowLe.refl _, RowLe.refl _, trivial⟩,
            ⟨by omega, by omega, .inr ⟨bf.length, rfl, by omega, by omega⟩⟩, trivial, rfl, trivial, trivial, trivial, trivial, trivial, trivial⟩)
        simp only [w2, Int.toNat_natCast, Nat.sub_zero] at e
        refine LoopK.step [some 0, some 1, some 2, some 3] e (by rfl) ?_
        refine L3.cast rfl ?_ rfl rfl
        rw [rowsO, hb2]
        rfl
      · have w4 : IntKind.i64.wrap ((2 : Int) * bf.length) = ((2 * bf.length : Nat) : Int) := by rw [wrap64 (by omega) (by omega)]; omega
        have w5 : IntKind.i64.wrap (((2 * bf.length : Nat) : Int) + z) = ((2 * bf.length + z : Nat) : Int) := by rw [wrap64 (by omega) (by omega)]; omega
        have hx : (bf.take l ++ List.replicate (2 * bf.length + z - l) 0).length = 2 * bf.length + z := by simp; omega
        obtain ⟨m, m1, m2, m3, hm⟩ := readC l z o r g (bf.take l ++ List.replicate (2 * bf.length + z - l) 0) dat b7.1 (by omega) b6 hr1 (by rw [hx]; omega)
        generalize hbf1 : bf.take l ++ List.replicate (2 * bf.length + z - l) 0 = bf1 at hm hx
        have w2 : IntKind.i64.wrap ((l : Int) + m) = ((l + m : Nat) : Int) := by rw [wrap64 (by omega) (by omega)]; omega
        have ht : bf1.take l = bf.take l := by rw [← hbf1, List.take_append_of_le_length (by simp; omega), List.take_of_length_le (by simp; omega)]
        have hb2 : (bf1.take l ++ (dat.drop o).take m ++ bf1.drop (l + m)).length = 2 * bf.length + z := by simp; omega
        have S2 : Held T z g (o + m) (r - m) (l + m) 0 (bf1.take l ++ (dat.drop o).take m ++ bf1.drop (l + m)) dat s := by
          refine ⟨b1, b2, b3, b7, by omega, b8, by omega, by rw [hb2]; omega, by rw [hb2]; omega, ?_⟩
          rw [List.drop_zero, List.take_append_of_le_length (by simp; omega), List.take_of_length_le (by simp; omega), ht]
          rw [List.drop_zero] at hs
          rw [← hs, List.append_assoc, ← List.drop_drop, List.take_append_drop]
        obtain ⟨o', r', l', bf', S3, h3, L3⟩ := ih (n - (l + m)) (by omega) (o + m) (r - m) (l + m) _ S2 rfl
        refine ⟨o', r', l', bf', S3, h3, ?_⟩
        have c1 : (List.take 0 (List.replicate (2 * bf.length + z) (0 : UInt8)) ++ List.take (Min.min (List.take l (List.drop 0 bf)).length l) (List.take l (List.drop 0 bf)) ++ List.drop (0 + Min.min (List.take l (List.drop 0 bf)).length l) (List.replicate (2 * bf.length + z) (0 : UInt8))) = bf1 := by
          have f1 : (List.take l bf).length = l := by simp; omega
          rw [← hbf1, List.drop_zero, f1, Nat.min_self, Nat.zero_add, List.take_zero, List.nil_append, List.drop_replicate, List.take_take, Nat.min_self]
        have e := mlg g n z l o r (o + m) (r - m) m bf bf1 (bf1.take l ++ (dat.drop o).take m ++ bf1.drop (l + m)) dat (by
          have d1 : decide (((bf.length - l : Nat) : Int) < (z : Int)) = true := by simp; omega
          simp only [AllP, w1, w2, w3, w4, w5, hlt, d1, Nat.zero_add, Nat.mul_one, Int.toNat_natCast, Nat.add_sub_cancel_left, leAll]
          simp only [Nat.zero_add] at c1
          rw [c1]
          refine ⟨by omega, by omega, ⟨by omega, by omega, .inr ⟨2 * bf.length + z, rfl, by omega, by rw [hb2]; omega⟩⟩, hm, ⟨Le.refl _, Le_cap _ _ _ _, trivial⟩, ⟨RowLe.refl _, RowLe.refl _, RowLe.refl _, trivial⟩,
            ⟨by omega, by omega, .inr ⟨2 * bf.length + z, rfl, by omega, by rw [hx]; omega⟩⟩, by omega, ⟨by omega, by omega, by omega⟩, trivial, rfl, trivial, trivial, trivial, trivial, trivial, trivial⟩)
        simp only [w2, w4, w5, Int.toNat_natCast, Nat.sub_zero] at e
        refine LoopK.step [some 0, some 1, some 4, some 3] e (by rfl) ?_
        refine L3.cast rfl ?_ rfl rfl
        rw [rowsO, hb2]
        rfl
end Go.Ax
