/-
  Values of MessagePack written in chosen forms: numbers, heads.
-/
import Derived.Test.YtkbmfpkbegjhcaaDoorSgC
import Derived.Test.YtkbmfpkbegjhcaaDoorSgD
set_option linter.unusedVariables false
set_option linter.unusedSimpArgs false
set_option maxRecDepth 100000
namespace Go.Ax
open Go.Proofs

/-- A number in so many bytes, the highest first. -/
def bigL (u : Int) : Nat → List UInt8
  | 0 => []
  | s + 1 => byteI (u / 256 ^ s) :: bigL u s

theorem bigL_len (u : Int) : ∀ s, (bigL u s).length = s
  | 0 => rfl
  | s + 1 => by simp [bigL, bigL_len u s]

abbrev FR (st : Int) (sh : Bool) : Row := .cells 54 2 [.lit (.int .u64 st), .lit (.bool sh)]

theorem fdiv_pos (u : Int) (k : Int) (hk : 0 ≤ k) : u.fdiv k = u / k := Int.fdiv_eq_ediv_of_nonneg u hk

theorem ofNatU8 (x : Int) : UInt8.ofNat (IntKind.u8.wrap x).toNat = byteI x := by rw [wrapU8]; rfl

theorem bigC (u s : Int) (hs : s = 1 ∨ s = 2 ∨ s = 4 ∨ s = 8) : ACalls Tryd.prog noG 97 [.lit (.int .u64 u), .lit (.int .i64 s)] [] (.bts (bigL u s.toNat)) [] := by
  have f1 := fdiv_pos u 1 (by decide)
  have f2 := fdiv_pos u 256 (by decide)
  have f3 := fdiv_pos u 65536 (by decide)
  have f4 := fdiv_pos u 16777216 (by decide)
  have f5 := fdiv_pos u 4294967296 (by decide)
  have f6 := fdiv_pos u 1099511627776 (by decide)
  have f7 := fdiv_pos u 281474976710656 (by decide)
  have f8 := fdiv_pos u 72057594037927936 (by decide)
  rcases hs with rfl | rfl | rfl | rfl
  · exact (((gbig1 u trivial).freezeRet 0 rfl rfl).only [] rfl).cast rfl rfl (by simp [AV.frz, frzOwn, AV.ren, bigL, ofNatU8, f1]) rfl
  · exact (((gbig2 u trivial).freezeRet 0 rfl rfl).only [] rfl).cast rfl rfl (by simp [AV.frz, frzOwn, AV.ren, bigL, ofNatU8, f1, f2]) rfl
  · exact (((gbig4 u trivial).freezeRet 0 rfl rfl).only [] rfl).cast rfl rfl (by simp [AV.frz, frzOwn, AV.ren, bigL, ofNatU8, f1, f2, f3, f4]) rfl
  · exact (((gbig8 u trivial).freezeRet 0 rfl rfl).only [] rfl).cast rfl rfl (by simp [AV.frz, frzOwn, AV.ren, bigL, ofNatU8, f1, f2, f3, f4, f5, f6, f7, f8]) rfl

theorem pickC (n st : Int) (sh : Bool) (h1 : 1 ≤ n) (h2 : n < 4294967296) :
    ∃ k st' : Int, (0 ≤ k ∧ k < n) ∧ ACalls Tryd.prog noG 98 [.ptr 0 0, .lit (.int .i64 n)] [FR st sh] (.lit (.int .i64 k)) [FR st' sh] := by
  cases hb : (bif sh then true else decide (n ≤ 1)) with
  | true => exact ⟨0, st, by omega, gpkA n st sh ⟨hb, trivial⟩⟩
  | false =>
    refine ⟨_, _, ?_, gpkB n st sh ⟨by omega, hb, trivial⟩⟩
    rw [wrapU64, fdiv_pos _ _ (by decide)]
    generalize IntKind.u64.wrap (st * 6364136223846793005) + 1442695040888963407 = X
    have e : IntKind.i64.wrap (X % 18446744073709551616 / 8589934592) = X % 18446744073709551616 / 8589934592 := wrap64 (by omega) (by omega)
    rw [e]
    have h0 : 0 ≤ X % 18446744073709551616 / 8589934592 := by omega
    rw [Int.tmod_eq_emod_of_nonneg h0]
    exact ⟨Int.emod_nonneg _ (by omega), Int.emod_lt_of_pos _ (by omega)⟩

def fC (p : Int × Int) : List AV := [.lit (.int .i64 p.1), .lit (.int .i64 p.2)]
def fitB (u s : Int) : Bool := decide (8 ≤ s) || decide (u < 256 ^ s.toNat)
def sizesOf (u : Int) (l : List (Int × Int)) : List (Int × Int) := l.filter fun p => fitB u p.2
def fget (l : List (Int × Int)) (i : Nat) : Int × Int := l.getD i (0, 0)
def fAV (l : List (Int × Int)) : AV := .ro 2 l.length (fun i => [.lit (.int .i64 (fget l i).1), .lit (.int .i64 (fget l i).2)])

theorem fdivB (u k : Int) (h0 : 0 ≤ u) (hk : 0 < k) : (u.fdiv k == (0 : Int)) = decide (u < k) := by
  rw [fdiv_pos u k (by omega)]
  by_cases h : u < k
  · simp [h, Int.ediv_eq_zero_of_lt h0 h]
  · have : ¬ u / k = 0 := fun e => by
      have := Int.ediv_mul_le u (show k ≠ 0 by omega)
      have h2 := Int.lt_ediv_add_one_mul_self u hk
      rw [e] at h2
      omega
    simp [h, this]

theorem sizes3 (u c0 c1 c2 : Int) (h0 : 0 ≤ u) (h : u < 4294967296) :
    ACalls Tryd.prog noG 99 [.lit (.int .u64 u), .ro 2 3 (fun i => [.lit (.int .i64 ([c0, c1, c2].getD i 0)), .lit (.int .i64 ([1, 2, 4].getD i 0))])] [] (fAV (sizesOf u [(c0, 1), (c1, 2), (c2, 4)])) [] := by
  have q1 := fdivB u 256 h0 (by decide)
  have q2 := fdivB u 65536 h0 (by decide)
  have q3 := fdivB u 4294967296 h0 (by decide)
  have three : ∀ i : Nat, i < 3 → i = 0 ∨ i = 1 ∨ i = 2 := fun i hi => by omega
  by_cases c8 : u < 256
  · have e : sizesOf u [(c0, 1), (c1, 2), (c2, 4)] = [(c0, 1), (c1, 2), (c2, 4)] := by simp [sizesOf, fitB, c8]; omega
    rw [e]
    have d1 : u < 65536 := by omega
    refine (((gs3a u c0 c1 c2 (by simp [AllP, q1, q2, q3, c8, d1, h])).freezeRet 0 rfl rfl).only [] rfl).le (leAll_refl _) ?_ rfl
    refine Le_ro fun i hi => ?_
    rcases three i hi with rfl | rfl | rfl <;> first | rfl | exact absurd hi (by decide)
  · by_cases c16 : u < 65536
    · have e : sizesOf u [(c0, 1), (c1, 2), (c2, 4)] = [(c1, 2), (c2, 4)] := by simp [sizesOf, fitB, c8, c16]; omega
      rw [e]
      refine (((gs3b u c0 c1 c2 (by simp [AllP, q1, q2, q3, c8, c16, h])).freezeRet 0 rfl rfl).only [] rfl).le (leAll_refl _) ?_ rfl
      refine Le_ro fun i hi => ?_
      rcases three i (by omega) with rfl | rfl | rfl <;> first | rfl | exact absurd hi (by decide)
    · have e : sizesOf u [(c0, 1), (c1, 2), (c2, 4)] = [(c2, 4)] := by simp [sizesOf, fitB, c8, c16]; omega
      rw [e]
      refine (((gs3c u c0 c1 c2 (by simp [AllP, q1, q2, q3, c8, c16, h])).freezeRet 0 rfl rfl).only [] rfl).le (leAll_refl _) ?_ rfl
      refine Le_ro fun i hi => ?_
      rcases three i (by omega) with rfl | rfl | rfl <;> first | rfl | exact absurd hi (by decide)

def headL (c s u : Int) : List UInt8 := byteI c :: bigL u s.toNat

theorem headL_len (c s u : Int) (hs : s = 1 ∨ s = 2 ∨ s = 4 ∨ s = 8) : (headL c s u).length ≤ 9 := by
  simp only [headL, List.length_cons, bigL_len]; omega

theorem headC (c s u : Int) (hs : s = 1 ∨ s = 2 ∨ s = 4 ∨ s = 8) :
    ACalls Tryd.prog noG 59 [.agg [.lit (.int .i64 c), .lit (.int .i64 s)], .lit (.int .u64 u)] [] (.own 0 0 (headL c s u).length none) [.bytes 5 (headL c s u)] := by
  have hb := bigC u s hs
  have hl := bigL_len u s.toNat
  rcases hs with rfl | rfl | rfl | rfl
  · exact (ghd1 c u _ ⟨by simp only [hl]; omega, hb, trivial⟩).cast rfl rfl (by simp [headL]; omega) (by simp [headL, ofNatU8])
  · exact (ghd2 c u _ ⟨by simp only [hl]; omega, hb, trivial⟩).cast rfl rfl (by simp [headL]; omega) (by simp [headL, ofNatU8])
  · exact (ghd4 c u _ ⟨by simp only [hl]; omega, hb, trivial⟩).cast rfl rfl (by simp [headL]; omega) (by simp [headL, ofNatU8])
  · exact (ghd8 c u _ ⟨by simp only [hl]; omega, hb, trivial⟩).cast rfl rfl (by simp [headL]; omega) (by simp [headL, ofNatU8])

def orB (a b : Int) : UInt8 := byteI (IntKind.i64.wrap ((BitVec.ofInt IntKind.i64.bits a ||| BitVec.ofInt IntKind.i64.bits b).toNat : Int))

/-- What the head of a text, bytes, an array, a map may be. -/
def HeadOut (n fx un : Int) (l : List (Int × Int)) (out : List UInt8) : Prop :=
  (0 ≤ fx ∧ n < un ∧ out = [orB fx n]) ∨ ∃ p ∈ sizesOf n l, out = headL p.1 p.2 n

theorem fget_mem {l : List (Int × Int)} {i : Nat} (h : i < l.length) : fget l i ∈ l := by
  simp [fget, h]

theorem putHeadC (n fx un st : Int) (sh : Bool) (q : Nat) (lf : Nat → List AV) (l : List (Int × Int)) (h0 : 0 ≤ n) (hn : n < 4294967296) (hl : ∀ p ∈ l, p.2 = 1 ∨ p.2 = 2 ∨ p.2 = 4 ∨ p.2 = 8) (hlen : l.length ≤ 4)
    (hne : sizesOf n l ≠ []) (hs : ACalls Tryd.prog noG 99 [.lit (.int .u64 n), .ro 2 q lf] [] (fAV (sizesOf n l)) []) :
    ∃ out st', HeadOut n fx un l out ∧ ∃ c, ACalls Tryd.prog noG 60 [.ptr 0 0, .lit (.int .i64 n), .lit (.int .i64 fx), .lit (.int .i64 un), .ro 2 q lf] [FR st sh, .gone] (.own 2 0 out.length c) [FR st' sh, .gone, .bytes 5 out] := by
  have hlen' : (sizesOf n l).length ≤ 4 := Nat.le_trans (List.length_filter_le _ _) hlen
  have hpos : 0 < (sizesOf n l).length := List.length_pos_iff.2 hne
  have hsz : ∀ i, i < (sizesOf n l).length → (fget (sizesOf n l) i).2 = 1 ∨ (fget (sizesOf n l) i).2 = 2 ∨ (fget (sizesOf n l) i).2 = 4 ∨ (fget (sizesOf n l) i).2 = 8 := fun i hi => hl _ (List.mem_filter.1 (fget_mem hi)).1
  have w1 : IntKind.u64.wrap n = n := by rw [wrapU64]; omega
  unfold fAV at hs
  cases hb : (bif decide (fx ≥ 0) then decide (n < un) else false) with
  | true =>
    obtain ⟨k, st', ⟨k0, k1⟩, hp⟩ := pickC ((sizesOf n l).length + 1) st sh (by omega) (by omega)
    have w2 : IntKind.i64.wrap ((sizesOf n l).length + 1 : Int) = (sizesOf n l).length + 1 := wrap64 (by omega) (by omega)
    have hfx : 0 ≤ fx ∧ n < un := by
      cases h : decide (fx ≥ 0) with
      | true => simp [h] at hb; simp at h; exact ⟨h, hb⟩
      | false => simp [h] at hb
    by_cases hk : k = 0
    · refine ⟨[orB fx n], st', .inl ⟨hfx.1, hfx.2, rfl⟩, _, (gph1 n fx un st st' sh q (sizesOf n l).length lf (fun i => (fget (sizesOf n l) i).1) (fun i => (fget (sizesOf n l) i).2) k [] ?_).cast rfl rfl rfl (by simp [orB, ofNatU8])⟩
      simp [AllP, leAll, hk, hb, w1, w2]
      exact ⟨hk ▸ hp, hs⟩
    · have hi : (k - 1).toNat < (sizesOf n l).length := by omega
      have w3 : IntKind.i64.wrap (k - 1) = k - 1 := wrap64 (by omega) (by omega)
      refine ⟨headL (fget (sizesOf n l) (k - 1).toNat).1 (fget (sizesOf n l) (k - 1).toNat).2 n, st', .inr ⟨_, fget_mem hi, rfl⟩, _,
        gph2 n fx un st st' sh q (sizesOf n l).length lf (fun i => (fget (sizesOf n l) i).1) (fun i => (fget (sizesOf n l) i).2) k (headL (fget (sizesOf n l) (k - 1).toNat).1 (fget (sizesOf n l) (k - 1).toNat).2 n) ?_⟩
      simp [AllP, leAll, hb, w1, w2, w3, hk]
      exact ⟨headC _ _ _ (hsz (k.toNat - 1) (by omega)), by omega, hp, hs⟩
  | false =>
    obtain ⟨k, st', ⟨k0, k1⟩, hp⟩ := pickC (sizesOf n l).length st sh (by omega) (by omega)
    have hi : k.toNat < (sizesOf n l).length := by omega
    refine ⟨headL (fget (sizesOf n l) k.toNat).1 (fget (sizesOf n l) k.toNat).2 n, st', .inr ⟨_, fget_mem hi, rfl⟩, _,
      gph3 n fx un st st' sh q (sizesOf n l).length lf (fun i => (fget (sizesOf n l) i).1) (fun i => (fget (sizesOf n l) i).2) k (headL (fget (sizesOf n l) k.toNat).1 (fget (sizesOf n l) k.toNat).2 n) ?_⟩
    simp [AllP, leAll, hb, w1]
    exact ⟨headC _ _ _ (hsz _ hi), ⟨k0, k1⟩, hp, hs⟩
end Go.Ax
