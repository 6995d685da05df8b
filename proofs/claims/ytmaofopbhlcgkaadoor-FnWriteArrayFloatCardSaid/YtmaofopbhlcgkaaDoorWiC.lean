/-
  The Go functions that laws.FnWriteInt reaches, each by a contract.
-/
import Derived.Test.YtmaofopbhlcgkaaDoorWiB
import Derived.Test.YtmaofopbhlcgkaaDoorTkC
set_option linter.unusedVariables false
set_option linter.unusedSimpArgs false
set_option maxRecDepth 100000
namespace Go.Ax
open Go.Proofs

theorem noDataIdle : IdleD Tryd.prog 17 := idle_of2 (fn := Tryd.f17) Tryd.func17 (by kernel_rfl) (by kernel_rfl) (fun ρ => by kernel_rfl) (by kernel_rfl)

/-- An int, as AMQP writes it. -/
def encA (v : Int) : List UInt8 := if -128 ≤ v ∧ v < 128 then [84, byteI v] else [113, byteI (v / 16777216), byteI (v / 65536), byteI (v / 256), byteI v]

theorem byteI_toNat (v : Int) : UInt8.ofNat (v % 256).toNat = byteI v := rfl

def bufRow (w : AV) : Row := .cells 52 2 [w, .lit (.int .i64 0)]

theorem apN (bs : List UInt8) (c : Nat) (h0 : 0 < bs.length) (h1 : bs.length ≤ 1000000) : ACalls Tryd.prog noG 46 [.ptr 0 0, .own 1 0 bs.length (some c)] [bufRow (.lit (.slice none 0 0)), .bytes 5 bs] (.tup []) [bufRow (.own 2 0 bs.length none), .bytes 5 bs, .bytes 5 bs] :=
  (apn bs c (by simp [AllP]; omega)).cast rfl rfl rfl (by simp [bufRow])

theorem writeInt32 (v : Int) (h0 : -2147483648 ≤ v) (h1 : v < 2147483648) : ACalls Tryd.prog noG 32 [.ptr 0 0, .lit (.int .i32 v)] [bufRow (.lit (.slice none 0 0))] (.tup []) [bufRow (.own 1 0 (encA v).length none), .bytes 5 (encA v)] := by
  by_cases h : -128 ≤ v ∧ v < 128
  · have a := apN [84, byteI v] 2 (by simp) (by simp)
    have w : IntKind.u8.wrap v = v % 256 := wrapU8 v
    refine (w32a v (v % 256) ?_).cast rfl rfl rfl (by simp [encA, h, byteI_toNat, bufRow])
    simp only [AllP, leAll, w, byteI_toNat]
    refine ⟨a, ⟨Le.refl _, Le.refl _, trivial⟩, ⟨RowLe.refl _, RowLe.refl _, trivial⟩, ⟨by omega, by omega⟩, ⟨by omega, by omega⟩, ?_, by simp; omega, by simp; omega, trivial⟩
    have d1 : decide (v < 128) = true := by simp; omega
    rw [d1]
    simp; omega
  · have a : ACalls Tryd.prog noG 47 [.ptr 0 0, .lit (.int .u8 113)] [bufRow (.lit (.slice none 0 0))] (.tup []) [bufRow (.own 1 0 1 none), .bytes 5 [113]] := (abn 113 (by simp [AllP])).cast rfl rfl rfl (by simp [bufRow])
    have w : IntKind.u32.wrap v = v % 4294967296 := wrapU32 v
    have b : ACalls Tryd.prog noG 37 [.ptr 0 0, .lit (.int .u32 (v % 4294967296))] [bufRow (.own 1 0 1 none), .bytes 5 [113]] (.tup []) [bufRow (.own 2 0 (encA v).length none), .gone, .bytes 5 (encA v)] := by
      have f1 : (v % 4294967296).fdiv 256 = v % 4294967296 / 256 := by rw [Int.fdiv_eq_ediv_of_nonneg _ (by omega)]
      have f2 : (v % 4294967296).fdiv 65536 = v % 4294967296 / 65536 := by rw [Int.fdiv_eq_ediv_of_nonneg _ (by omega)]
      have f3 : (v % 4294967296).fdiv 16777216 = v % 4294967296 / 16777216 := by rw [Int.fdiv_eq_ediv_of_nonneg _ (by omega)]
      have e1 : v % 4294967296 / 256 % 256 = v / 256 % 256 := by omega
      have e2 : v % 4294967296 / 65536 % 256 = v / 65536 % 256 := by omega
      have e3 : v % 4294967296 / 16777216 % 256 = v / 16777216 % 256 := by omega
      have e4 : v % 4294967296 % 256 = v % 256 := by omega
      have e := a4o [113] (v % 4294967296)
      simp only [f1, f2, f3, wrapU8, e1, e2, e3, e4, byteI_toNat] at e
      refine (e ?_).cast rfl rfl rfl (by simp [encA, h, bufRow])
      simp only [AllP]
      refine ⟨by omega, by simp, ⟨by omega, by omega⟩, ⟨by omega, by omega⟩, ⟨by omega, by omega⟩, ⟨by omega, by omega⟩, by omega, by omega, by omega, trivial⟩
    by_cases hp : v < 128
    · refine (w32c v (v % 4294967296) (encA v) ?_).cast rfl rfl rfl rfl
      have hq : ¬ -128 ≤ v := fun hq => h ⟨hq, hp⟩
      simp only [AllP, leAll, w]
      exact ⟨b, ⟨Le.refl _, Le.refl _, trivial⟩, ⟨RowLe.refl _, RowLe.refl _, trivial⟩, a, ⟨Le.refl _, Le.refl _, trivial⟩, ⟨RowLe.refl _, trivial⟩, by simp [hp]; omega, by simp [hp], by simp [hp], trivial⟩
    · refine (w32b v (v % 4294967296) (encA v) ?_).cast rfl rfl rfl rfl
      simp only [AllP, leAll, w]
      exact ⟨b, ⟨Le.refl _, Le.refl _, trivial⟩, ⟨RowLe.refl _, RowLe.refl _, trivial⟩, a, ⟨Le.refl _, Le.refl _, trivial⟩, ⟨RowLe.refl _, trivial⟩, trivial, by simp; omega, by simp; omega, by simp; omega, trivial⟩

theorem encA_len (v : Int) : 0 < (encA v).length ∧ (encA v).length ≤ 5 := by
  unfold encA
  split <;> simp

theorem writeInt (v : Int) (h0 : -2147483648 ≤ v) (h1 : v < 2147483648) : ACalls Tryd.prog noG 7 [.lit (.int .i32 v)] [] (.tup [.bts (encA v), .lit (.bool true)]) [] := by
  have hl := encA_len v
  have a := w18 v (encA v) (by
    have := writeInt32 v h0 h1
    simp only [AllP, leAll]
    exact ⟨this, ⟨Le.refl _, Le.refl _, trivial⟩, ⟨RowLe.refl _, trivial⟩, trivial⟩)
  have b := (w20 (encA v) (by simp [AllP])).cast rfl rfl (show _ = AV.own 1 0 (encA v).length none by simp) rfl
  have c : ACalls Tryd.prog noG 19 [.own 0 0 (encA v).length none] [.bytes 5 (encA v)] (.own 1 0 (encA v).length none) [.bytes 5 (encA v), .bytes 5 (encA v)] := (w19 (encA v) (by simp [AllP]; omega)).cast rfl rfl (by simp) (by simp)
  have e := w7 v (encA v) (by
    simp only [AllP, leAll]
    exact ⟨by omega, by omega, c, ⟨Le.refl _, trivial⟩, ⟨RowLe.refl _, trivial⟩, b, ⟨Le.refl _, trivial⟩, ⟨RowLe.refl _, RowLe.refl _, trivial⟩, a, ⟨Le.refl _, Le.refl _, trivial⟩, ⟨RowLe.refl _, trivial⟩, noDataIdle, trivial⟩)
  have h2 := (e.freezeRet 0 rfl rfl).only [] (by rfl)
  exact h2.cast rfl rfl (by simp [AV.frz, AV.frzL, frzOwn, AV.ren, AV.renL, List.take_of_length_le]) rfl

theorem big0 (d : List UInt8) (k n : Nat) (h1 : d.length = k) (h2 : k < 1000) (h3 : bigA 0 d = n) : ACalls Tryd.prog noG 49 [.bts d, .lit (.int .i64 k)] [] (.tup [.lit (.int .u64 n), .bts [], .lit (.bool true)]) [] := by
  subst h1; subst h3
  exact (takeBig d d.length (Nat.le_refl _) h2).cast rfl rfl (by simp) rfl

theorem kind84 : ACalls Tryd.prog noG 48 [.lit (.int .i64 84)] [] (.tup [.lit (.int .i64 8), .lit (.int .i64 1), .lit (.bool true)]) [] := k48_84 (by simp [AllP])
theorem kind113 : ACalls Tryd.prog noG 48 [.lit (.int .i64 113)] [] (.tup [.lit (.int .i64 8), .lit (.int .i64 4), .lit (.bool true)]) [] := k48_113 (by simp [AllP])

theorem takeA (v : Int) (h0 : -2147483648 ≤ v) (h1 : v < 2147483648) : ACalls Tryd.prog noG 21 [.bts (encA v), .lit (.int .i64 8)] [] (.tup [vpack 8 (v % 18446744073709551616), .bts [], .lit (.bool true)]) [] := by
  by_cases h : -128 ≤ v ∧ v < 128
  · have b := big0 [byteI v] 1 (v % 256).toNat rfl (by omega) (big8 v)
    have hn : (((v % 256).toNat : Nat) : Int) = v % 256 := by omega
    rw [hn] at b
    have s := sx v 72057594037927936 (by simp) (v % 256) (by omega) (by omega) (by omega)
    have t := k34_84 [byteI v] (v % 256) (by simp [AllP, leAll]; exact ⟨b, kind84⟩)
    rw [s, wrapU64] at t
    have c := (k33 84 [byteI v] (by simp [AllP])).cast rfl rfl (show _ = AV.tup [.agg [.lit (.slice none 0 0), .lit (.int .i64 84)], .bts [byteI v], .lit (.bool true)] by simp; decide) rfl
    have e := k21 84 8 (v % 18446744073709551616) (84 :: [byteI v]) [byteI v] (by simp [AllP, leAll]; exact ⟨t, c⟩)
    exact e.cast (by simp [encA, h]) rfl rfl rfl
  · have b := big0 [byteI (v / 16777216), byteI (v / 65536), byteI (v / 256), byteI v] 4 (v % 4294967296).toNat rfl (by omega) (big32 v)
    have hn : (((v % 4294967296).toNat : Nat) : Int) = v % 4294967296 := by omega
    rw [hn] at b
    have s := sx v 4294967296 (by simp) (v % 4294967296) (by omega) (by omega) (by omega)
    have t := k34_113 [byteI (v / 16777216), byteI (v / 65536), byteI (v / 256), byteI v] (v % 4294967296) (by simp [AllP, leAll]; exact ⟨b, kind113⟩)
    rw [s, wrapU64] at t
    have c := (k33 113 [byteI (v / 16777216), byteI (v / 65536), byteI (v / 256), byteI v] (by simp [AllP])).cast rfl rfl (show _ = AV.tup [.agg [.lit (.slice none 0 0), .lit (.int .i64 113)], .bts [byteI (v / 16777216), byteI (v / 65536), byteI (v / 256), byteI v], .lit (.bool true)] by simp; decide) rfl
    have e := k21 113 8 (v % 18446744073709551616) (113 :: [byteI (v / 16777216), byteI (v / 65536), byteI (v / 256), byteI v]) [byteI (v / 16777216), byteI (v / 65536), byteI (v / 256), byteI v] (by simp [AllP, leAll]; exact ⟨t, c⟩)
    exact e.cast (by simp [encA, h]) rfl rfl rfl

theorem sameV (k n : Int) : ACalls Tryd.prog noG 22 [vpack k n, vpack k n] [] (.lit (.bool true)) [] := by
  have l := (LoopC.exit (l22 k n (by simp [AllP])) (by simp)).code
  exact k22 k n (by simp [AllP]; exact l)

theorem wroteV (k n : Int) (d : List UInt8) (h : ACalls Tryd.prog noG 21 [.bts d, .lit (.int .i64 8)] [] (.tup [vpack k n, .bts [], .lit (.bool true)]) []) : ACalls Tryd.prog noG 8 [.bts d, .lit (.bool true), vpack k n] [] (.lit (.bool true)) [] := by
  have s := sameV k n
  exact k8 k n d (by simp [AllP, leAll]; exact ⟨s, h⟩)

theorem fnWriteInt (v : Int) (h0 : -2147483648 ≤ v) (h1 : v < 2147483648) : ACalls Tryd.prog noG 3 [.lit (.int .i32 v)] [] (.lit (.bool true)) [] := by
  have w5 := writeInt 5 (by omega) (by omega)
  have t5 := wroteV 8 5 [84, 5] (takeA 5 (by omega) (by omega))
  have wv := writeInt v h0 h1
  have tv := wroteV 8 (v % 18446744073709551616) (encA v) (takeA v h0 h1)
  have w : IntKind.u64.wrap (IntKind.i64.wrap v) = v % 18446744073709551616 := by rw [wrap64 (by omega) (by omega), wrapU64]
  exact k3 v (v % 18446744073709551616) (encA v) (by
    simp only [AllP, leAll, w]
    exact ⟨trivial, tv, ⟨Le.refl _, Le.refl _, Le.refl _, trivial⟩, trivial, wv, ⟨Le.refl _, trivial⟩, trivial, t5, ⟨Le.refl _, Le.refl _, Le.refl _, trivial⟩, trivial, w5, ⟨Le.refl _, trivial⟩, trivial, trivial⟩)
end Go.Ax
