/-
  The Go functions that laws.FnPutUint32 reaches, each by a contract.
-/
import Derived.Test.YtmaofopbhlcgkaaU2B
import Derived.Test.YtmaofopbhlcgkaaUnD
import Derived.Test.YtmaofopbhlcgkaaTbC
set_option linter.unusedVariables false
set_option linter.unusedSimpArgs false
set_option maxRecDepth 100000
namespace Go.Ax
open Go.Proofs

theorem putUint32 (bs : List UInt8) (v : Nat) (h : bs.length ≤ maxN) (hv : v < 4294967296) : ACalls Try.prog noG 23 [.bts bs, .lit (.int .u32 v)] [] (.bts (bs ++ encU v)) [] := by
  have w : IntKind.u64.wrap (v : Int) = v := by rw [wrapU64]; omega
  have a := appendUint bs v h hv
  rw [show bs.length + (encU v).length = (bs ++ encU v).length by simp] at a
  have u := u40 bs (bs ++ encU v) v (by
    simp only [AllP, leAll, w]
    exact ⟨a, ⟨Le.refl _, Le.refl _, trivial⟩, ⟨RowLe.refl _, trivial⟩, trivial⟩)
  have h1 := f23 bs (bs ++ encU v) v (by
    simp only [AllP, leAll]
    exact ⟨u, ⟨Le.refl _, Le.refl _, trivial⟩, ⟨RowLe.refl _, trivial⟩, copied bs h, ⟨Le.refl _, trivial⟩, trivial, trivial⟩)
  have h2 := (h1.freezeRet 0 rfl rfl).only [] (by rfl)
  exact h2.cast rfl rfl (by simp [AV.frz, frzOwn, AV.ren, List.take_of_length_le]) rfl

theorem encU_len (v : Nat) : (encU v).length ≤ 5 := by
  unfold encU
  split
  · simp
  · split
    · simp
    · split <;> simp

theorem big1 (rest : List UInt8) (k n : Nat) (hk : rest.length = k) (hk2 : k < 1000) (hn : bigA 0 rest = n) : ACalls Try.prog noG 35 [.bts rest, .lit (.int .i64 k)] [] (.tup [.lit (.int .u64 n), .bts [], .lit (.bool true)]) [] := by
  subst hk; subst hn
  exact (takeBig rest rest.length (Nat.le_refl _) hk2).cast rfl rfl (by simp) rfl

theorem takePackU (v : Nat) (hv : v < 4294967296) : ACalls Try.prog noG 32 [.bts (encU v), .lit (.int .i64 1)] [] (.tup [zpack 3 v, .bts [], .lit (.bool true)]) [] := by
  by_cases h1 : v ≤ 127
  · have hn : (UInt8.ofNat v).toNat = v := by rw [UInt8.toNat_ofNat']; omega
    have w1 : IntKind.i64.wrap (v : Int) = v := wrap64 (by omega) (by omega)
    have w2 : IntKind.u64.wrap (v : Int) = v := by rw [wrapU64]; omega
    have g : ([UInt8.ofNat v].getD 0 0).toNat = v := hn
    have e := t32s (UInt8.ofNat v) (by simp only [AllP, g, w1]; simp; omega)
    simp only [g, w1, w2] at e
    exact e.cast (by simp [encU, h1]) rfl rfl rfl
  · by_cases h2 : v ≤ 255
    · have hb : bigA 0 [UInt8.ofNat v] = v := by simp [bigA, UInt8.toNat_ofNat']; omega
      have c := t50c [UInt8.ofNat v] v (by have b := big1 [UInt8.ofNat v] 1 v rfl (by omega) hb; simp [AllP, leAll]; exact b)
      have e := t32c [UInt8.ofNat v] v (by simp [AllP, leAll]; exact c)
      exact e.cast (by simp [encU, h1, h2]) rfl rfl rfl
    · by_cases h3 : v ≤ 65535
      · have hb : bigA 0 [UInt8.ofNat (v / 256), UInt8.ofNat (v % 256)] = v := by simp [bigA, UInt8.toNat_ofNat']; omega
        have c := t50d [UInt8.ofNat (v / 256), UInt8.ofNat (v % 256)] v (by have b := big1 [UInt8.ofNat (v / 256), UInt8.ofNat (v % 256)] 2 v rfl (by omega) hb; simp [AllP, leAll]; exact b)
        have e := t32d [UInt8.ofNat (v / 256), UInt8.ofNat (v % 256)] v (by simp [AllP, leAll]; exact c)
        exact e.cast (by simp [encU, h1, h2, h3]) rfl rfl rfl
      · have hb : bigA 0 [UInt8.ofNat (v / 16777216), UInt8.ofNat (v / 65536 % 256), UInt8.ofNat (v / 256 % 256), UInt8.ofNat (v % 256)] = v := by simp [bigA, UInt8.toNat_ofNat']; omega
        have c := t50e [UInt8.ofNat (v / 16777216), UInt8.ofNat (v / 65536 % 256), UInt8.ofNat (v / 256 % 256), UInt8.ofNat (v % 256)] v (by
          have b := big1 [UInt8.ofNat (v / 16777216), UInt8.ofNat (v / 65536 % 256), UInt8.ofNat (v / 256 % 256), UInt8.ofNat (v % 256)] 4 v rfl (by omega) hb
          simp [AllP, leAll]; exact b)
        have e := t32e [UInt8.ofNat (v / 16777216), UInt8.ofNat (v / 65536 % 256), UInt8.ofNat (v / 256 % 256), UInt8.ofNat (v % 256)] v (by simp [AllP, leAll]; exact c)
        exact e.cast (by simp [encU, h1, h2, h3]) rfl rfl rfl

theorem appendedU (bs : List UInt8) (v : Nat) (h : bs.length ≤ maxN) (hv : v < 4294967296) : ACalls Try.prog noG 13 [.bts bs, .bts (bs ++ encU v), zpack 3 v, .lit (.int .i64 5)] [] (.lit (.bool true)) [] := by
  simp [maxN] at h
  have h1 := samePack3 v
  have h2 := takePackU v hv
  have hl := encU_len v
  have d1 : ¬ ((bs.length : Int) + ((encU v).length : Int) < bs.length) := by omega
  have d2 : (bs.length : Int) + (encU v).length - bs.length = (encU v).length := by omega
  have d3 : IntKind.i64.wrap ((encU v).length : Int) = (encU v).length := wrap64 (by omega) (by omega)
  have d4 : (bs.length : Int) ≤ bs.length + (encU v).length := by omega
  have d5 : ¬ (5 < (encU v).length) := by omega
  have d6 : ((bs.length : Int) + (encU v).length).toNat = bs.length + (encU v).length := by omega
  have d7 : ((encU v).length : Int) ≤ 5 := by omega
  refine (a13 bs (encU v) 3 v 5 ?_).cast rfl rfl rfl rfl
  simp [AllP, leAll, zpack] at h1 h2 ⊢
  simp [h1, h2, d1, d2, d3, d4, d5, d6, d7, List.take_of_length_le]

theorem fnPutUint32 (bs : List UInt8) (v : Nat) (hv : v < 4294967296) : ACalls Try.prog noG 7 [.bts bs, .lit (.int .u32 v)] [] (.lit (.bool true)) [] := by
  by_cases h1 : (2147483647 : Int) < bs.length
  · exact e7a bs v (by simp [AllP, h1])
  · have h : bs.length ≤ maxN := by simp [maxN]; omega
    have p0 : ACalls Try.prog noG 23 [.bts [], .lit (.int .u32 5)] [] (.bts [5]) [] := putUint32 [] 5 (by simp [maxN]) (by omega)
    have p2 := appendedU bs v h hv
    have p3 := few bs
    have w : IntKind.u64.wrap (v : Int) = v := by rw [wrapU64]; omega
    have p5 : ACalls Try.prog noG 23 [.own 0 0 bs.length none, .lit (.int .u32 v)] [.bytes 5 bs] (.bts (bs ++ encU v)) [.gone] := by
      refine ACalls.freezeArg 0 (r := .bytes 5 bs) rfl rfl ?_
      refine ((putUint32 bs v h hv).frame [.gone] (by simp [leAll, AV.ren]) rfl).cast ?_ rfl rfl rfl
      simp [AV.frz, frzOwn]
    simp only [zpack, bytes_empty] at p2
    by_cases h2 : bs.length ≤ 200
    · simp only [h2, decide_true] at p3
      refine (e7c bs (encU v) v ?_).cast rfl rfl rfl rfl
      simp [AllP, leAll, zpack, bytes_empty, p0, p2, p3, p5, w]
      omega
    · simp only [h2, decide_false] at p3
      refine (e7b bs v ?_).cast rfl rfl rfl rfl
      simp [AllP, leAll, p0, p3]
      omega
end Go.Ax
