/-
  The Go functions that laws.FnPutInt32 reaches, each by a contract.
-/
import Derived.Test.YtmaofopbhlcgkaaI2B
import Derived.Test.YtmaofopbhlcgkaaInD
import Derived.Test.YtmaofopbhlcgkaaU2C
set_option linter.unusedVariables false
set_option linter.unusedSimpArgs false
set_option maxRecDepth 100000
namespace Go.Ax
open Go.Proofs

theorem wrapI64 (n : Int) : IntKind.i64.wrap n = (n + 9223372036854775808) % 18446744073709551616 - 9223372036854775808 := by
  simp only [IntKind.wrap, IntKind.bits, IntKind.signed]
  simp
  omega

theorem sx (v d : Int) (hd : d = 72057594037927936 ∨ d = 281474976710656 ∨ d = 4294967296) (n : Int) (hn : n = v % (18446744073709551616 / d)) (h0 : -(9223372036854775808 / d) ≤ v) (h1 : v < 9223372036854775808 / d) :
    (IntKind.i64.wrap (IntKind.u64.wrap (n * d))).fdiv d = v := by
  rw [Int.fdiv_eq_ediv_of_nonneg _ (by omega), wrapU64, wrapI64]
  rcases hd with rfl | rfl | rfl <;> omega

theorem putInt32 (bs : List UInt8) (v : Int) (h : bs.length ≤ maxN) (h0 : -2147483648 ≤ v) (hv : v < 2147483648) : ACalls Try.prog noG 27 [.bts bs, .lit (.int .i32 v)] [] (.bts (bs ++ encI v)) [] := by
  have w : IntKind.i64.wrap v = v := wrap64 (by omega) (by omega)
  have a := appendInt bs v h h0 hv
  rw [show bs.length + (encI v).length = (bs ++ encI v).length by simp] at a
  have u := i44 bs (bs ++ encI v) v (by
    simp only [AllP, leAll, w]
    exact ⟨a, ⟨Le.refl _, Le.refl _, trivial⟩, ⟨RowLe.refl _, trivial⟩, trivial⟩)
  have h1 := f27 bs (bs ++ encI v) v (by
    simp only [AllP, leAll]
    exact ⟨u, ⟨Le.refl _, Le.refl _, trivial⟩, ⟨RowLe.refl _, trivial⟩, copied bs h, ⟨Le.refl _, trivial⟩, trivial, trivial⟩)
  have h2 := (h1.freezeRet 0 rfl rfl).only [] (by rfl)
  exact h2.cast rfl rfl (by simp [AV.frz, frzOwn, AV.ren, List.take_of_length_le]) rfl

def kindI (v : Int) : Int := if 0 ≤ v then 3 else 2

theorem byteI_nat (x : Int) : (byteI x).toNat = (x % 256).toNat := by
  simp only [byteI, UInt8.toNat_ofNat']
  omega

theorem big16 (v : Int) : bigA 0 [byteI (v / 256), byteI v] = (v % 65536).toNat := by
  simp only [bigA, byteI_nat]
  omega
theorem big32 (v : Int) : bigA 0 [byteI (v / 16777216), byteI (v / 65536), byteI (v / 256), byteI v] = (v % 4294967296).toNat := by
  simp only [bigA, byteI_nat]
  omega
theorem big8 (v : Int) : bigA 0 [byteI v] = (v % 256).toNat := by
  simp only [bigA, byteI_nat]
  omega

theorem takePack3 (v : Int) (h0 : -32768 ≤ v) (h1 : v ≤ 32767) : ACalls Try.prog noG 32 [.bts (enc3 v), .lit (.int .i64 1)] [] (.tup [zpack (kindI v) (v % 18446744073709551616), .bts [], .lit (.bool true)]) [] := by
  have b := big1 [byteI (v / 256), byteI v] 2 (v % 65536).toNat rfl (by omega) (big16 v)
  have hn : (((v % 65536).toNat : Nat) : Int) = v % 65536 := by omega
  rw [hn] at b
  have s := sx v 281474976710656 (by simp) (v % 65536) (by omega) (by omega) (by omega)
  have c : ACalls Try.prog noG 50 [.lit (.int .i64 209), .bts [byteI (v / 256), byteI v], .lit (.int .i64 1)] [] (.tup [zpack (kindI v) (v % 18446744073709551616), .bts [], .lit (.bool true)]) [] := by
    by_cases hp : 0 ≤ v
    · have e1 : v % 65536 = v % 18446744073709551616 := by omega
      have e := j50ep [byteI (v / 256), byteI v] (v % 65536) (by simp [AllP, leAll, s]; exact ⟨hp, b⟩)
      exact e.cast rfl rfl (by simp [kindI, hp, zpack, e1, bytes_empty]) rfl
    · have e := j50en [byteI (v / 256), byteI v] (v % 65536) (by simp [AllP, leAll, s]; exact ⟨by omega, b⟩)
      rw [s, wrapU64] at e
      exact e.cast rfl rfl (by simp [kindI, hp, zpack, bytes_empty]) rfl
  exact (j32e [byteI (v / 256), byteI v] (kindI v) (v % 18446744073709551616) (by simp [AllP, leAll]; exact c)).cast (by simp [enc3]) rfl rfl rfl

theorem takePack5 (v : Int) (h0 : -2147483648 ≤ v) (h1 : v < 2147483648) : ACalls Try.prog noG 32 [.bts (enc5 v), .lit (.int .i64 1)] [] (.tup [zpack (kindI v) (v % 18446744073709551616), .bts [], .lit (.bool true)]) [] := by
  have b := big1 [byteI (v / 16777216), byteI (v / 65536), byteI (v / 256), byteI v] 4 (v % 4294967296).toNat rfl (by omega) (big32 v)
  have hn : (((v % 4294967296).toNat : Nat) : Int) = v % 4294967296 := by omega
  rw [hn] at b
  have s := sx v 4294967296 (by simp) (v % 4294967296) (by omega) (by omega) (by omega)
  have c : ACalls Try.prog noG 50 [.lit (.int .i64 210), .bts [byteI (v / 16777216), byteI (v / 65536), byteI (v / 256), byteI v], .lit (.int .i64 1)] [] (.tup [zpack (kindI v) (v % 18446744073709551616), .bts [], .lit (.bool true)]) [] := by
    by_cases hp : 0 ≤ v
    · have e1 : v % 4294967296 = v % 18446744073709551616 := by omega
      have e := j50fp [byteI (v / 16777216), byteI (v / 65536), byteI (v / 256), byteI v] (v % 4294967296) (by simp [AllP, leAll, s]; exact ⟨hp, b⟩)
      exact e.cast rfl rfl (by simp [kindI, hp, zpack, e1, bytes_empty]) rfl
    · have e := j50fn [byteI (v / 16777216), byteI (v / 65536), byteI (v / 256), byteI v] (v % 4294967296) (by simp [AllP, leAll, s]; exact ⟨by omega, b⟩)
      rw [s, wrapU64] at e
      exact e.cast rfl rfl (by simp [kindI, hp, zpack, bytes_empty]) rfl
  exact (j32f [byteI (v / 16777216), byteI (v / 65536), byteI (v / 256), byteI v] (kindI v) (v % 18446744073709551616) (by simp [AllP, leAll]; exact c)).cast (by simp [enc5]) rfl rfl rfl

theorem takePack2 (v : Int) (h0 : -128 ≤ v) (h1 : v < 0) : ACalls Try.prog noG 32 [.bts [208, byteI v], .lit (.int .i64 1)] [] (.tup [zpack (kindI v) (v % 18446744073709551616), .bts [], .lit (.bool true)]) [] := by
  have b := big1 [byteI v] 1 (v % 256).toNat rfl (by omega) (big8 v)
  have hn : (((v % 256).toNat : Nat) : Int) = v % 256 := by omega
  rw [hn] at b
  have s := sx v 72057594037927936 (by simp) (v % 256) (by omega) (by omega) (by omega)
  have hp : ¬ 0 ≤ v := by omega
  have c : ACalls Try.prog noG 50 [.lit (.int .i64 208), .bts [byteI v], .lit (.int .i64 1)] [] (.tup [zpack (kindI v) (v % 18446744073709551616), .bts [], .lit (.bool true)]) [] := by
    have e := j50dn [byteI v] (v % 256) (by simp [AllP, leAll, s]; exact ⟨by omega, b⟩)
    rw [s, wrapU64] at e
    exact e.cast rfl rfl (by simp [kindI, hp, zpack, bytes_empty]) rfl
  exact (j32d [byteI v] (kindI v) (v % 18446744073709551616) (by simp [AllP, leAll]; exact c)).cast rfl rfl rfl rfl

theorem takePackI (v : Int) (h0 : -2147483648 ≤ v) (h1 : v < 2147483648) : ACalls Try.prog noG 32 [.bts (encI v), .lit (.int .i64 1)] [] (.tup [zpack (kindI v) (v % 18446744073709551616), .bts [], .lit (.bool true)]) [] := by
  have hb := byteI_nat v
  by_cases g0 : 0 ≤ v
  · by_cases g1 : v ≤ 127
    · have g : (([byteI v].getD 0 0).toNat : Int) = v := by show ((byteI v).toNat : Int) = v; omega
      have w1 : IntKind.i64.wrap v = v := wrap64 (by omega) (by omega)
      have e := t32s (byteI v) (by simp only [AllP, g, w1]; simp; omega)
      simp only [g, w1, wrapU64] at e
      exact e.cast (by simp [encI, g0, g1]) rfl (by simp [kindI, g0, zpack, bytes_empty]) rfl
    · by_cases g2 : v ≤ 32767
      · exact (takePack3 v (by omega) g2).cast (by simp [encI, g0, g1, g2]) rfl rfl rfl
      · exact (takePack5 v h0 h1).cast (by simp [encI, g0, g1, g2]) rfl rfl rfl
  · by_cases g1 : -32 ≤ v
    · have g : (([byteI v].getD 0 0).toNat : Int) = v + 256 := by show ((byteI v).toNat : Int) = v + 256; omega
      have w1 : IntKind.i64.wrap (v + 256) = v + 256 := wrap64 (by omega) (by omega)
      have w2 : IntKind.i8.wrap (v + 256) = v := by simp only [IntKind.wrap, IntKind.bits, IntKind.signed]; simp; omega
      have w3 : IntKind.i64.wrap v = v := wrap64 (by omega) (by omega)
      have e := j32n (byteI v) (by simp only [AllP, g, w1]; simp; omega)
      simp only [g, w1, w2, w3, wrapU64] at e
      exact e.cast (by simp [encI, g0, g1]) rfl (by simp [kindI, g0, zpack, bytes_empty]) rfl
    · by_cases g2 : -128 ≤ v
      · exact (takePack2 v g2 (by omega)).cast (by simp [encI, g0, g1, g2]) rfl rfl rfl
      · by_cases g3 : -32768 ≤ v
        · exact (takePack3 v g3 (by omega)).cast (by simp [encI, g0, g1, g2, g3]) rfl rfl rfl
        · exact (takePack5 v h0 h1).cast (by simp [encI, g0, g1, g2, g3]) rfl rfl rfl

theorem samePackI (v : Int) (h0 : -2147483648 ≤ v) (h1 : v < 2147483648) : ACalls Try.prog noG 33 [zpack 2 (v % 18446744073709551616), zpack (kindI v) (v % 18446744073709551616)] [] (.lit (.bool true)) [] := by
  have hl : CodeC Try.prog noG 80 (.loop (loopAt Try.f33 0)) [(63, .lit (.int .i64 0)), (64, .lit (.int .i64 0))] [] (.exit 0) [] [] := (LoopC.exit (p33x ⟨rfl, trivial⟩) (by simp)).code
  have w : IntKind.i64.wrap (v % 18446744073709551616) = v := by rw [wrapI64]; omega
  by_cases hp : 0 ≤ v
  · have e := j33p (v % 18446744073709551616) (by simp [AllP, hl, w, hp])
    simpa [kindI, hp] using e
  · have e := j33n (v % 18446744073709551616) (by simp [AllP, hl, w]; omega)
    simpa [kindI, hp] using e

theorem encI_len (v : Int) : (encI v).length ≤ 5 := by
  unfold encI
  split <;> (repeat' split) <;> simp [enc3, enc5]

theorem appendedI (bs : List UInt8) (v : Int) (h : bs.length ≤ maxN) (h0 : -2147483648 ≤ v) (h1 : v < 2147483648) : ACalls Try.prog noG 13 [.bts bs, .bts (bs ++ encI v), zpack 2 (v % 18446744073709551616), .lit (.int .i64 5)] [] (.lit (.bool true)) [] := by
  simp [maxN] at h
  have h1' := samePackI v h0 h1
  have h2 := takePackI v h0 h1
  have hl := encI_len v
  have d1 : ¬ ((bs.length : Int) + ((encI v).length : Int) < bs.length) := by omega
  have d2 : (bs.length : Int) + (encI v).length - bs.length = (encI v).length := by omega
  have d3 : IntKind.i64.wrap ((encI v).length : Int) = (encI v).length := wrap64 (by omega) (by omega)
  have d4 : (bs.length : Int) ≤ bs.length + (encI v).length := by omega
  have d5 : ¬ (5 < (encI v).length) := by omega
  have d6 : ((bs.length : Int) + (encI v).length).toNat = bs.length + (encI v).length := by omega
  have d7 : ((encI v).length : Int) ≤ 5 := by omega
  refine (j13 bs (encI v) 2 (kindI v) (v % 18446744073709551616) 5 ?_).cast rfl rfl rfl rfl
  simp [AllP, leAll, zpack] at h1' h2 ⊢
  simp [h1', h2, d1, d2, d3, d4, d5, d6, d7, List.take_of_length_le]

theorem fnPutInt32 (bs : List UInt8) (v : Int) (h0 : -2147483648 ≤ v) (hv : v < 2147483648) : ACalls Try.prog noG 9 [.bts bs, .lit (.int .i32 v)] [] (.lit (.bool true)) [] := by
  by_cases h1 : (2147483647 : Int) < bs.length
  · exact e9a bs v (by simp [AllP, h1])
  · have h : bs.length ≤ maxN := by simp [maxN]; omega
    have p0 : ACalls Try.prog noG 27 [.bts [], .lit (.int .i32 5)] [] (.bts [5]) [] := putInt32 [] 5 (by simp [maxN]) (by omega) (by omega)
    have p2 := appendedI bs v h h0 hv
    have p3 := few bs
    have w : IntKind.i64.wrap v = v := wrap64 (by omega) (by omega)
    have p5 : ACalls Try.prog noG 27 [.own 0 0 bs.length none, .lit (.int .i32 v)] [.bytes 5 bs] (.bts (bs ++ encI v)) [.gone] := by
      refine ACalls.freezeArg 0 (r := .bytes 5 bs) rfl rfl ?_
      refine ((putInt32 bs v h h0 hv).frame [.gone] (by simp [leAll, AV.ren]) rfl).cast ?_ rfl rfl rfl
      simp [AV.frz, frzOwn]
    simp only [zpack, bytes_empty] at p2
    by_cases h2 : bs.length ≤ 200
    · simp only [h2, decide_true] at p3
      refine (e9c bs (encI v) v (v % 18446744073709551616) ?_).cast rfl rfl rfl rfl
      simp [AllP, leAll, zpack, bytes_empty, p0, p2, p3, p5, w, wrapU64]
      omega
    · simp only [h2, decide_false] at p3
      refine (e9b bs v ?_).cast rfl rfl rfl rfl
      simp [AllP, leAll, p0, p3]
      omega
end Go.Ax
