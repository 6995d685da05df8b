/-
  Values that stand one behind the other: spec.TakePack, spec.SamePack, laws.inOrder, each by a contract.
-/
import Derived.Test.YtdkiaokbiildaaaWuD
set_option linter.unusedVariables false
set_option linter.unusedSimpArgs false
set_option maxRecDepth 100000
namespace Go.Ax
open Go.Proofs

theorem bigR (d r : List UInt8) (k n : Nat) (h1 : d.length = k) (h2 : k < 1000) (h3 : bigA 0 d = n) : ACalls Try.prog noG 32 [.bts (d ++ r), .lit (.int .i64 k)] [] (.tup [.lit (.int .u64 n), .bts r, .lit (.bool true)]) [] := by
  subst h1; subst h3
  exact (takeBig (d ++ r) d.length (by simp) h2).cast rfl rfl (by simp) rfl

theorem tn1 (d : List UInt8) : ((d.length : Int) + 1).toNat = d.length + 1 := by omega
theorem tl1 (d : List UInt8) : (1 : Int) ≤ (d.length : Int) + 1 := by omega
theorem tl0 (d : List UInt8) : (0 : Int) < (d.length : Int) + 1 := by omega

theorem takeU (v : Nat) (hv : v < 65536) (r : List UInt8) : ACalls Try.prog noG 12 [.bts (encU v ++ r), .lit (.int .i64 2)] [] (.tup [zpack 3 v, .bts r, .lit (.bool true)]) [] := by
  by_cases h1 : v ≤ 127
  · have hn : (UInt8.ofNat v).toNat = v := by rw [UInt8.toNat_ofNat']; omega
    have w1 : IntKind.i64.wrap (v : Int) = v := wrap64 (by omega) (by omega)
    have w2 : IntKind.u64.wrap (v : Int) = v := by rw [wrapU64]; omega
    have g : ((UInt8.ofNat v :: r).getD 0 0).toNat = v := hn
    have e := t1 (UInt8.ofNat v) r (by simp only [AllP, Int.toNat_zero, g, w1]; simp; omega)
    simp only [Int.toNat_zero, g, w1, w2] at e
    exact e.cast (by simp [encU, h1]) rfl (by simp [zpack, tn1, bytes_empty]) rfl
  · by_cases h2 : v ≤ 255
    · have hb : bigA 0 [UInt8.ofNat v] = v := by simp [bigA, UInt8.toNat_ofNat']; omega
      have c := t3c (UInt8.ofNat v :: r) r v (by have b := bigR [UInt8.ofNat v] r 1 v rfl (by omega) hb; simp [AllP, leAll]; exact b)
      have e : ∀ d, ACalls Try.prog noG 22 [.lit (.int .i64 204), .bts d, .lit (.int .i64 2)] [] (.tup [zpack 3 v, .bts r, .lit (.bool true)]) [] → ACalls Try.prog noG 12 [.bts (204 :: d), .lit (.int .i64 2)] [] (.tup [zpack 3 v, .bts r, .lit (.bool true)]) [] :=
        fun d h => t2c d r 3 v (by simp [AllP, leAll, tn1, tl1, tl0]; exact h)
      exact (e _ c).cast (by simp [encU, h1, h2]) rfl rfl rfl
    · have h3 : v ≤ 65535 := by omega
      have hb : bigA 0 [UInt8.ofNat (v / 256), UInt8.ofNat (v % 256)] = v := by simp [bigA, UInt8.toNat_ofNat']; omega
      have c := t3d (UInt8.ofNat (v / 256) :: UInt8.ofNat (v % 256) :: r) r v (by have b := bigR [UInt8.ofNat (v / 256), UInt8.ofNat (v % 256)] r 2 v rfl (by omega) hb; simp [AllP, leAll]; exact b)
      have e : ∀ d, ACalls Try.prog noG 22 [.lit (.int .i64 205), .bts d, .lit (.int .i64 2)] [] (.tup [zpack 3 v, .bts r, .lit (.bool true)]) [] → ACalls Try.prog noG 12 [.bts (205 :: d), .lit (.int .i64 2)] [] (.tup [zpack 3 v, .bts r, .lit (.bool true)]) [] :=
        fun d h => t2d d r 3 v (by simp [AllP, leAll, tn1, tl1, tl0]; exact h)
      exact (e _ c).cast (by simp [encU, h1, h2, h3]) rfl rfl rfl

theorem take3 (v : Int) (h0 : -32768 ≤ v) (h1 : v ≤ 32767) (r : List UInt8) : ACalls Try.prog noG 12 [.bts (enc3 v ++ r), .lit (.int .i64 2)] [] (.tup [zpack (kindI v) (v % 18446744073709551616), .bts r, .lit (.bool true)]) [] := by
  have b := bigR [byteI (v / 256), byteI v] r 2 (v % 65536).toNat rfl (by omega) (big16 v)
  have hn : (((v % 65536).toNat : Nat) : Int) = v % 65536 := by omega
  rw [hn] at b
  have s := sx v 281474976710656 (by simp) (v % 65536) (by omega) (by omega) (by omega)
  have c : ACalls Try.prog noG 22 [.lit (.int .i64 209), .bts (byteI (v / 256) :: byteI v :: r), .lit (.int .i64 2)] [] (.tup [zpack (kindI v) (v % 18446744073709551616), .bts r, .lit (.bool true)]) [] := by
    by_cases hp : 0 ≤ v
    · have e1 : v % 65536 = v % 18446744073709551616 := by omega
      have e := t3yp (byteI (v / 256) :: byteI v :: r) r (v % 65536) (by simp [AllP, leAll, s]; exact ⟨hp, b⟩)
      exact e.cast rfl rfl (by simp [kindI, hp, zpack, e1, bytes_empty]) rfl
    · have e := t3yn (byteI (v / 256) :: byteI v :: r) r (v % 65536) (by simp [AllP, leAll, s]; exact ⟨by omega, b⟩)
      rw [s, wrapU64] at e
      exact e.cast rfl rfl (by simp [kindI, hp, zpack, bytes_empty]) rfl
  have e : ∀ d, ACalls Try.prog noG 22 [.lit (.int .i64 209), .bts d, .lit (.int .i64 2)] [] (.tup [zpack (kindI v) (v % 18446744073709551616), .bts r, .lit (.bool true)]) [] → ACalls Try.prog noG 12 [.bts (209 :: d), .lit (.int .i64 2)] [] (.tup [zpack (kindI v) (v % 18446744073709551616), .bts r, .lit (.bool true)]) [] :=
    fun d h => t2y d r (kindI v) (v % 18446744073709551616) (by simp [AllP, leAll, tn1, tl1, tl0]; exact h)
  exact (e _ c).cast (by simp [enc3]) rfl rfl rfl

theorem take2 (v : Int) (h0 : -128 ≤ v) (h1 : v < 0) (r : List UInt8) : ACalls Try.prog noG 12 [.bts ([208, byteI v] ++ r), .lit (.int .i64 2)] [] (.tup [zpack (kindI v) (v % 18446744073709551616), .bts r, .lit (.bool true)]) [] := by
  have b := bigR [byteI v] r 1 (v % 256).toNat rfl (by omega) (big8 v)
  have hn : (((v % 256).toNat : Nat) : Int) = v % 256 := by omega
  rw [hn] at b
  have s := sx v 72057594037927936 (by simp) (v % 256) (by omega) (by omega) (by omega)
  have hp : ¬ 0 ≤ v := by omega
  have c : ACalls Try.prog noG 22 [.lit (.int .i64 208), .bts (byteI v :: r), .lit (.int .i64 2)] [] (.tup [zpack (kindI v) (v % 18446744073709551616), .bts r, .lit (.bool true)]) [] := by
    have e := t3xn (byteI v :: r) r (v % 256) (by simp [AllP, leAll, s]; exact ⟨by omega, b⟩)
    rw [s, wrapU64] at e
    exact e.cast rfl rfl (by simp [kindI, hp, zpack, bytes_empty]) rfl
  have e : ∀ d, ACalls Try.prog noG 22 [.lit (.int .i64 208), .bts d, .lit (.int .i64 2)] [] (.tup [zpack (kindI v) (v % 18446744073709551616), .bts r, .lit (.bool true)]) [] → ACalls Try.prog noG 12 [.bts (208 :: d), .lit (.int .i64 2)] [] (.tup [zpack (kindI v) (v % 18446744073709551616), .bts r, .lit (.bool true)]) [] :=
    fun d h => t2x d r (kindI v) (v % 18446744073709551616) (by simp [AllP, leAll, tn1, tl1, tl0]; exact h)
  exact (e _ c).cast (by simp) rfl rfl rfl

theorem takeI (v : Int) (h0 : -32768 ≤ v) (h1 : v ≤ 32767) (r : List UInt8) : ACalls Try.prog noG 12 [.bts (encI v ++ r), .lit (.int .i64 2)] [] (.tup [zpack (kindI v) (v % 18446744073709551616), .bts r, .lit (.bool true)]) [] := by
  have hb := byteI_nat v
  by_cases g0 : 0 ≤ v
  · by_cases g1 : v ≤ 127
    · have g : (((byteI v :: r).getD 0 0).toNat : Int) = v := by show ((byteI v).toNat : Int) = v; omega
      have w1 : IntKind.i64.wrap v = v := wrap64 (by omega) (by omega)
      have e := t1 (byteI v) r (by simp only [AllP, Int.toNat_zero, g, w1]; simp; omega)
      simp only [Int.toNat_zero, g, w1, wrapU64] at e
      exact e.cast (by simp [encI, g0, g1]) rfl (by simp [kindI, g0, zpack, tn1, bytes_empty]) rfl
    · exact (take3 v (by omega) h1 r).cast (by simp [encI, g0, g1, h1]) rfl rfl rfl
  · by_cases g1 : -32 ≤ v
    · have g : (((byteI v :: r).getD 0 0).toNat : Int) = v + 256 := by show ((byteI v).toNat : Int) = v + 256; omega
      have w1 : IntKind.i64.wrap (v + 256) = v + 256 := wrap64 (by omega) (by omega)
      have w2 : IntKind.i8.wrap (v + 256) = v := by simp only [IntKind.wrap, IntKind.bits, IntKind.signed]; simp; omega
      have w3 : IntKind.i64.wrap v = v := wrap64 (by omega) (by omega)
      have e := t1n (byteI v) r (by simp only [AllP, Int.toNat_zero, g, w1]; simp; omega)
      simp only [Int.toNat_zero, g, w1, w2, w3, wrapU64] at e
      exact e.cast (by simp [encI, g0, g1]) rfl (by simp [kindI, g0, zpack, tn1, bytes_empty]) rfl
    · by_cases g2 : -128 ≤ v
      · exact (take2 v g2 (by omega) r).cast (by simp [encI, g0, g1, g2]) rfl rfl rfl
      · exact (take3 v h0 (by omega) r).cast (by simp [encI, g0, g1, g2, h0]) rfl rfl rfl

theorem hl33 : CodeC Try.prog noG 80 (.loop (loopAt Try.f13 0)) [(63, .lit (.int .i64 0)), (64, .lit (.int .i64 0))] [] (.exit 0) [] [] := (LoopC.exit (p33x ⟨rfl, trivial⟩) (by simp)).code
theorem sameU (n : Int) : ACalls Try.prog noG 13 [zpack 3 n, zpack 3 n] [] (.lit (.bool true)) [] := s33 n (by simp [AllP, hl33])
theorem sameI (v : Int) (h0 : -2147483648 ≤ v) (h1 : v < 2147483648) : ACalls Try.prog noG 13 [zpack 2 (v % 18446744073709551616), zpack (kindI v) (v % 18446744073709551616)] [] (.lit (.bool true)) [] := by
  have w : IntKind.i64.wrap (v % 18446744073709551616) = v := by rw [wrapI64]; omega
  by_cases hp : 0 ≤ v
  · have e := s23 (v % 18446744073709551616) (by simp [AllP, hl33, w, hp])
    simpa [kindI, hp] using e
  · have e := s22 (v % 18446744073709551616) (by simp [AllP, hl33, w]; omega)
    simpa [kindI, hp] using e

def cellP (k n : Int) : List AV := [.lit (.int .i64 k), .lit (.int .u64 n), .lit (.string .empty), .lit (.int .i64 0), .lit (.slice none 0 0)]
def roP (k : Int) (l : List Int) : AV := .ro 5 l.length (fun i => cellP k (l.getD i 0))
def slO (k : Int) (l : List Int) (data : List UInt8) (i : Nat) : List (Nat × AV) := [(0, .bts data), (1, .lit (.bool true)), (12, roP k l), (13, .lit (.int .i64 l.length)), (14, .lit (.int .i64 i))]

section
variable {α : Type} {l : List α} {num : α → Int} {enc : α → List UInt8} {k : Int} {K2 : α → Int}

theorem inLoop (hl : l.length ≤ 1000000) (ht : ∀ x ∈ l, ∀ r, ACalls Try.prog noG 12 [.bts (enc x ++ r), .lit (.int .i64 2)] [] (.tup [zpack (K2 x) (num x), .bts r, .lit (.bool true)]) [])
    (hs : ∀ x ∈ l, ACalls Try.prog noG 13 [zpack k (num x), zpack (K2 x) (num x)] [] (.lit (.bool true)) []) : ∀ (m i : Nat), l.length - i = m → i ≤ l.length →
    LoopC Try.prog noG 44 (loopAt Try.f7 0) (slO k (l.map num) ((l.drop i).flatMap enc) i) [] (.exit 0) [(0, .bts []), (1, .lit (.bool true))] []
  | 0, i, hk, hi => by
    have he : i = l.length := by omega
    subst he
    have := LoopC.exit (iox k [] (l.map num) l.length (by simp [AllP])) (by simp)
    simpa [slO, roP, cellP] using this
  | m + 1, i, hk, hi => by
    have hlt : i < l.length := by omega
    have w : IntKind.i64.wrap ((i : Int) + 1) = ((i + 1 : Nat) : Int) := by rw [wrap64 (by omega) (by omega)]; simp
    have g : (l.map num).getD i 0 = num l[i] := by simp [hlt]
    have t := ht l[i] (List.getElem_mem _) ((l.drop (i + 1)).flatMap enc)
    have s := hs l[i] (List.getElem_mem _)
    have hd : (l.drop i).flatMap enc = enc l[i] ++ (l.drop (i + 1)).flatMap enc := by rw [List.drop_eq_getElem_cons hlt, List.flatMap_cons]
    rw [← hd] at t
    have e := iol k (K2 l[i]) (num l[i]) ((l.drop i).flatMap enc) ((l.drop (i + 1)).flatMap enc) (l.map num) i (by
      simp only [AllP, leAll, Int.toNat_natCast, g]
      simp only [zpack] at t s
      simp [t, s]
      omega)
    rw [w] at e
    exact LoopC.step e (inLoop hl ht hs m (i + 1) (by omega) (by omega))

theorem inOrder (hl : l.length ≤ 1000000) (ht : ∀ x ∈ l, ∀ r, ACalls Try.prog noG 12 [.bts (enc x ++ r), .lit (.int .i64 2)] [] (.tup [zpack (K2 x) (num x), .bts r, .lit (.bool true)]) [])
    (hs : ∀ x ∈ l, ACalls Try.prog noG 13 [zpack k (num x), zpack (K2 x) (num x)] [] (.lit (.bool true)) []) : ACalls Try.prog noG 7 [.bts (l.flatMap enc), .lit (.bool true), roP k (l.map num)] [] (.lit (.bool true)) [] := by
  have c := (inLoop hl ht hs _ 0 rfl (Nat.zero_le _)).code
  simp only [List.drop_zero] at c
  refine (io7 k (l.flatMap enc) (l.map num) ?_).cast rfl rfl (by simp) rfl
  simp only [AllP, leAll]
  simp
  simpa [slO, roP, cellP] using c
end
end Go.Ax
