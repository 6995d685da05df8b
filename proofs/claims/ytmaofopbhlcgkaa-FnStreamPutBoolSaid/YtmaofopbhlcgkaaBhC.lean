/-
  The Go functions that laws.FnPutBinHead reaches, each by a contract.
-/
import Derived.Test.YtmaofopbhlcgkaaBhB
import Derived.Test.YtmaofopbhlcgkaaUnD
import Derived.Test.YtmaofopbhlcgkaaTbC
set_option linter.unusedVariables false
set_option linter.unusedSimpArgs false
set_option maxRecDepth 100000
namespace Go.Ax
open Go.Proofs

theorem renL_dead (f : Nat → Option Nat) (m : Nat) : AV.renL f (List.replicate m .dead) = List.replicate m .dead := by
  simp [AV.renL_map, AV.ren]

theorem pre8 (bs : List UInt8) (m : Nat) (c v : Int) : ACalls Try.prog noG 52 [.own 0 bs.length (2 + m) none, .lit (.int .u8 c), .lit (.int .u8 v)] [.cells 5 1 (bs.map u8 ++ .dead :: .dead :: List.replicate m .dead)] (.tup [])
    [.cells 5 1 (bs.map u8 ++ .lit (.int .u8 c) :: .lit (.int .u8 v) :: List.replicate m .dead)] := by
  refine (e52 bs m c v ?_).cast rfl rfl rfl ?_
  · simp [AllP, setL_one, set_behind, set_behind0, nth_behind]; omega
  · simp [setL_one, set_behind, set_behind0, renL_behind, AV.renL, AV.ren, renL_dead]

theorem pre16 (bs : List UInt8) (m : Nat) (c v : Int) (h0 : 0 ≤ v) (h1 : v < 65536) : ACalls Try.prog noG 53 [.own 0 bs.length (3 + m) none, .lit (.int .u8 c), .lit (.int .u16 v)] [.cells 5 1 (bs.map u8 ++ .dead :: .dead :: .dead :: List.replicate m .dead)] (.tup [])
    [.cells 5 1 (bs.map u8 ++ .lit (.int .u8 c) :: .lit (.int .u8 (v / 256)) :: .lit (.int .u8 (v % 256)) :: List.replicate m .dead)] := by
  have f1 : v.fdiv 256 = v / 256 := by rw [Int.fdiv_eq_ediv_of_nonneg _ (by omega)]
  have g1 : v / 256 % 256 = v / 256 := by omega
  refine (e53 bs m c v ?_).cast rfl rfl rfl ?_
  · simp [AllP, setL_one, set_behind, set_behind0, nth_behind]; omega
  · simp [setL_one, set_behind, set_behind0, renL_behind, AV.renL, AV.ren, renL_dead, wrapU8, f1, g1]

theorem pre32 (bs : List UInt8) (m : Nat) (c v : Int) (h0 : 0 ≤ v) (h1 : v < 4294967296) : ACalls Try.prog noG 54 [.own 0 bs.length (5 + m) none, .lit (.int .u8 c), .lit (.int .u32 v)] [.cells 5 1 (bs.map u8 ++ .dead :: .dead :: .dead :: .dead :: .dead :: List.replicate m .dead)] (.tup [])
    [.cells 5 1 (bs.map u8 ++ .lit (.int .u8 c) :: .lit (.int .u8 (v / 16777216)) :: .lit (.int .u8 (v / 65536 % 256)) :: .lit (.int .u8 (v / 256 % 256)) :: .lit (.int .u8 (v % 256)) :: List.replicate m .dead)] := by
  have f1 : v.fdiv 256 = v / 256 := by rw [Int.fdiv_eq_ediv_of_nonneg _ (by omega)]
  have f2 : v.fdiv 65536 = v / 65536 := by rw [Int.fdiv_eq_ediv_of_nonneg _ (by omega)]
  have f3 : v.fdiv 16777216 = v / 16777216 := by rw [Int.fdiv_eq_ediv_of_nonneg _ (by omega)]
  have g3 : v / 16777216 % 256 = v / 16777216 := by omega
  refine (e54 bs m c v ?_).cast rfl rfl rfl ?_
  · simp [AllP, setL_one, set_behind, set_behind0, nth_behind]; omega
  · simp [setL_one, set_behind, set_behind0, renL_behind, AV.renL, AV.ren, renL_dead, wrapU8, f1, f2, f3, g3]

/-- The head of so many bytes. -/
def headB (v : Nat) : List UInt8 :=
  if v ≤ 255 then [196, UInt8.ofNat v] else if v ≤ 65535 then [197, UInt8.ofNat (v / 256), UInt8.ofNat (v % 256)]
  else [198, UInt8.ofNat (v / 16777216), UInt8.ofNat (v / 65536 % 256), UInt8.ofNat (v / 256 % 256), UInt8.ofNat (v % 256)]

theorem appendHead (bs : List UInt8) (v : Nat) (h : bs.length ≤ maxN) (hv : v < 4294967296) :
    ACalls Try.prog noG 34 [.own 0 0 bs.length none, .lit (.int .u32 v)] [.bytes 5 bs] (.own 1 0 (bs.length + (headB v).length) none) [.gone, .bytes 5 (bs ++ headB v)] := by
  have hm : maxN = 1000000000000 := rfl
  by_cases h1 : v ≤ 255
  · have w : IntKind.u8.wrap (v : Int) = v := by rw [wrapU8]; omega
    have c1 := ensureL bs 2 [.dead, .dead] rfl h (by omega)
    have c2 := pre8 bs 0 196 v
    have e := e34a bs [.lit (.int .u8 196), .lit (.int .u8 v)] v (by
      simp only [AllP, leAll, w, renL_behind, AV.renL, AV.ren, Int.toNat_natCast, Nat.mul_one, Nat.zero_add, Nat.add_sub_cancel_left]
      refine ⟨c2, ⟨Le.refl _, Le.refl _, Le.refl _, trivial⟩, ⟨RowLe.refl _, trivial⟩, ⟨by omega, by omega, .inl (Int.le_refl _)⟩, c1, ⟨Le.refl _, Le.refl _, trivial⟩, ⟨RowLe.refl _, trivial⟩, by simp; omega, trivial⟩)
    simp only [renL_behind, AV.renL, AV.ren] at e
    refine lastStep (enc := headB v) ?_ (by simp [headB, h1]) e
    simp only [headB, if_pos h1, List.map_cons, List.map_nil]
    rw [← lit_u8 v (by omega)]
    rfl
  · by_cases h2 : v ≤ 65535
    · have w : IntKind.u16.wrap (v : Int) = v := by simp only [IntKind.wrap, IntKind.bits, IntKind.signed]; simp; omega
      have c1 := ensureL bs 3 [.dead, .dead, .dead] rfl h (by omega)
      have c2 := pre16 bs 0 197 v (by omega) (by omega)
      have e := e34b bs [.lit (.int .u8 197), .lit (.int .u8 ((v : Int) / 256)), .lit (.int .u8 ((v : Int) % 256))] v (by
        simp only [AllP, leAll, w, renL_behind, AV.renL, AV.ren, Int.toNat_natCast, Nat.mul_one, Nat.zero_add, Nat.add_sub_cancel_left]
        refine ⟨c2, ⟨Le.refl _, Le.refl _, Le.refl _, trivial⟩, ⟨RowLe.refl _, trivial⟩, ⟨by omega, by omega, .inl (Int.le_refl _)⟩, c1, ⟨Le.refl _, Le.refl _, trivial⟩, ⟨RowLe.refl _, trivial⟩, by simp; omega, by simp; omega, trivial⟩)
      simp only [renL_behind, AV.renL, AV.ren] at e
      refine lastStep (enc := headB v) ?_ (by simp [headB, h1, h2]) e
      simp only [headB, if_neg h1, if_pos h2, List.map_cons, List.map_nil]
      rw [← lit_u8 (v / 256) (by omega), ← lit_u8 (v % 256) (by omega)]
      rfl
    · have c1 := ensureL bs 5 [.dead, .dead, .dead, .dead, .dead] rfl h (by omega)
      have c2 := pre32 bs 0 198 v (by omega) (by omega)
      have e := e34c bs [.lit (.int .u8 198), .lit (.int .u8 ((v : Int) / 16777216)), .lit (.int .u8 ((v : Int) / 65536 % 256)), .lit (.int .u8 ((v : Int) / 256 % 256)), .lit (.int .u8 ((v : Int) % 256))] v (by
        simp only [AllP, leAll, renL_behind, AV.renL, AV.ren, Int.toNat_natCast, Nat.mul_one, Nat.zero_add, Nat.add_sub_cancel_left]
        refine ⟨c2, ⟨Le.refl _, Le.refl _, Le.refl _, trivial⟩, ⟨RowLe.refl _, trivial⟩, ⟨by omega, by omega, .inl (Int.le_refl _)⟩, c1, ⟨Le.refl _, Le.refl _, trivial⟩, ⟨RowLe.refl _, trivial⟩, by simp; omega, by simp; omega, trivial⟩)
      simp only [renL_behind, AV.renL, AV.ren] at e
      refine lastStep (enc := headB v) ?_ (by simp [headB, h1, h2]) e
      simp only [headB, if_neg h1, if_neg h2, List.map_cons, List.map_nil]
      rw [← lit_u8 (v / 16777216) (by omega), ← lit_u8 (v / 65536 % 256) (by omega), ← lit_u8 (v / 256 % 256) (by omega), ← lit_u8 (v % 256) (by omega)]
      rfl

theorem putHead (bs : List UInt8) (v : Nat) (h : bs.length ≤ maxN) (hv : v < 4294967296) : ACalls Try.prog noG 15 [.bts bs, .lit (.int .u32 v)] [] (.bts (bs ++ headB v)) [] := by
  have a := appendHead bs v h hv
  rw [show bs.length + (headB v).length = (bs ++ headB v).length by simp] at a
  have h1 := f15 bs (bs ++ headB v) v (by
    simp only [AllP, leAll]
    exact ⟨a, ⟨Le.refl _, Le.refl _, trivial⟩, ⟨RowLe.refl _, trivial⟩, copied bs h, ⟨Le.refl _, trivial⟩, trivial, trivial⟩)
  have h2 := (h1.freezeRet 0 rfl rfl).only [] (by rfl)
  exact h2.cast rfl rfl (by simp [AV.frz, frzOwn, AV.ren, List.take_of_length_le]) rfl

theorem bigH (rest : List UInt8) (k n : Nat) (hk : rest.length = k) (hk2 : k < 1000) (hn : bigA 0 rest = n) : ACalls Try.prog noG 35 [.bts rest, .lit (.int .i64 k)] [] (.tup [.lit (.int .u64 n), .bts [], .lit (.bool true)]) [] := by
  subst hk; subst hn
  exact (takeBig rest rest.length (Nat.le_refl _) hk2).cast rfl rfl (by simp) rfl

theorem takeHead (v : Nat) (hv : v < 4294967296) : ACalls Try.prog noG 16 [.bts (headB v)] [] (.tup [.lit (.int .i64 7), .lit (.int .u64 v), .bts [], .lit (.bool true)]) [] := by
  by_cases h1 : v ≤ 255
  · have hb : bigA 0 [UInt8.ofNat v] = v := by simp [bigA, UInt8.toNat_ofNat']; omega
    have e := h16a [UInt8.ofNat v] v (by have b := bigH [UInt8.ofNat v] 1 v rfl (by omega) hb; simp [AllP, leAll]; exact b)
    exact e.cast (by simp [headB, h1]) rfl rfl rfl
  · by_cases h2 : v ≤ 65535
    · have hb : bigA 0 [UInt8.ofNat (v / 256), UInt8.ofNat (v % 256)] = v := by simp [bigA, UInt8.toNat_ofNat']; omega
      have e := h16b [UInt8.ofNat (v / 256), UInt8.ofNat (v % 256)] v (by have b := bigH [UInt8.ofNat (v / 256), UInt8.ofNat (v % 256)] 2 v rfl (by omega) hb; simp [AllP, leAll]; exact b)
      exact e.cast (by simp [headB, h1, h2]) rfl rfl rfl
    · have hb : bigA 0 [UInt8.ofNat (v / 16777216), UInt8.ofNat (v / 65536 % 256), UInt8.ofNat (v / 256 % 256), UInt8.ofNat (v % 256)] = v := by simp [bigA, UInt8.toNat_ofNat']; omega
      have e := h16c [UInt8.ofNat (v / 16777216), UInt8.ofNat (v / 65536 % 256), UInt8.ofNat (v / 256 % 256), UInt8.ofNat (v % 256)] v (by
        have b := bigH [UInt8.ofNat (v / 16777216), UInt8.ofNat (v / 65536 % 256), UInt8.ofNat (v / 256 % 256), UInt8.ofNat (v % 256)] 4 v rfl (by omega) hb
        simp [AllP, leAll]; exact b)
      exact e.cast (by simp [headB, h1, h2]) rfl rfl rfl

theorem fnPutBinHead (bs : List UInt8) (v : Nat) (hv : v < 4294967296) : ACalls Try.prog noG 4 [.bts bs, .lit (.int .u32 v)] [] (.lit (.bool true)) [] := by
  by_cases h1 : (2147483647 : Int) < bs.length
  · exact g4a bs v (by simp [AllP, h1])
  · have h : bs.length ≤ maxN := by simp [maxN]; omega
    have p0 : ACalls Try.prog noG 15 [.bts [], .lit (.int .u32 5)] [] (.bts [196, 5]) [] := putHead [] 5 (by simp [maxN]) (by omega)
    have p2 := takeHead v hv
    have p3 := few bs
    have w : IntKind.u64.wrap (v : Int) = v := by rw [wrapU64]; omega
    have p5 : ACalls Try.prog noG 15 [.own 0 0 bs.length none, .lit (.int .u32 v)] [.bytes 5 bs] (.bts (bs ++ headB v)) [.gone] := by
      refine ACalls.freezeArg 0 (r := .bytes 5 bs) rfl rfl ?_
      refine ((putHead bs v h hv).frame [.gone] (by simp [leAll, AV.ren]) rfl).cast ?_ rfl rfl rfl
      simp [AV.frz, frzOwn]
    have d1 : ¬ ((bs.length : Int) + ((headB v).length : Int) < bs.length) := by omega
    have d4 : (bs.length : Int) ≤ bs.length + (headB v).length := by omega
    have d6 : ((bs.length : Int) + (headB v).length).toNat = bs.length + (headB v).length := by omega
    by_cases h2 : bs.length ≤ 200
    · simp only [h2, decide_true] at p3
      refine (g4c bs (headB v) v ?_).cast rfl rfl (by simp [w]) rfl
      simp [AllP, leAll, p0, p2, p3, p5, w, d1, d4, d6, List.take_of_length_le]
      omega
    · simp only [h2, decide_false] at p3
      refine (g4b bs v ?_).cast rfl rfl rfl rfl
      simp [AllP, leAll, p0, p3]
      omega
end Go.Ax
