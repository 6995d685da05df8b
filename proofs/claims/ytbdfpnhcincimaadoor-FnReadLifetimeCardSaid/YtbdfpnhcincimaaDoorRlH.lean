/-
  laws.FnReadLifetime: what the function computes.
-/
import Derived.Test.YtbdfpnhcincimaaDoorBv
import Derived.Test.YtbdfpnhcincimaaDoorPk
import Derived.Test.YtbdfpnhcincimaaDoorRda
import Derived.Test.YtbdfpnhcincimaaDoorRdb
import Derived.Test.YtbdfpnhcincimaaDoorRdc
import Derived.Test.YtbdfpnhcincimaaDoorRle
import Derived.Test.YtbdfpnhcincimaaDoorRlf
import Derived.Test.YtbdfpnhcincimaaDoorRlg
set_option linter.unusedVariables false
set_option linter.unusedSimpArgs false
set_option maxRecDepth 100000
namespace Go.Ax
open Go.Proofs

abbrev FR (st : Int) (sh : Bool) : Row := .cells 48 2 [.lit (.int .u64 st), .lit (.bool sh)]
theorem fdiv_pos (u : Int) (k : Int) (hk : 0 ≤ k) : u.fdiv k = u / k := Int.fdiv_eq_ediv_of_nonneg u hk

theorem pickC (n st : Int) (sh : Bool) (h1 : 1 ≤ n) (h2 : n < 4294967296) :
    ∃ k st' : Int, (0 ≤ k ∧ k < n) ∧ ACalls Tryd.prog noG 57 [.ptr 0 0, .lit (.int .i64 n)] [FR st sh] (.lit (.int .i64 k)) [FR st' sh] := by
  cases hb : (bif sh then true else decide (n ≤ 1)) with
  | true => exact ⟨0, st, by omega, gpkA n st sh ⟨hb, trivial⟩⟩
  | false =>
    refine ⟨_, _, ?_, gpkB n st sh ⟨by omega, hb, trivial⟩⟩
    rw [wrapU64, fdiv_pos _ _ (by decide)]
    generalize IntKind.u64.wrap (st * 6364136223846793005) + 1442695040888963407 = X
    have e : IntKind.i64.wrap (X % 18446744073709551616 / 8589934592) = X % 18446744073709551616 / 8589934592 := wrap64 (by omega) (by omega)
    rw [e]
    have h0 : 0 ≤ X % 18446744073709551616 / 8589934592 := by omega
    rw [Int.tmod_eq_emod_of_nonneg h0]
    exact ⟨Int.emod_nonneg _ (by omega), Int.emod_lt_of_pos _ (by omega)⟩

theorem idle53 : IdleD Tryd.prog 53 := idle_of2 (fn := Tryd.f53) Tryd.func53 (by kernel_rfl) (by kernel_rfl) (fun ρ => by kernel_rfl) (by kernel_rfl)

section
variable (code : Int) (h0 : 0 ≤ code) (h1 : code < 256)
include h0 h1

theorem byteC : ((byteI code).toNat : Int) = code := by rw [byteI_nat]; omega

theorem rd00 (bh : List UInt8) (hl : bh.length ≤ 200) : ACalls Tryd.prog noG 20 [.own 0 0 (4 + bh.length) none] [.bytes 5 (0 :: 83 :: byteI code :: 69 :: bh)] (.tup [.lit (.int .u8 code), .own 1 0 bh.length none, .lit (.bool true)]) [.bytes 5 (0 :: 83 :: byteI code :: 69 :: bh), .bytes 5 bh] := by
  have bc := byteC code h0 h1
  have hb : (0 :: 83 :: byteI code :: 69 :: bh : List UInt8).length ≤ 140737488355328 := by simp <;> omega
  have w8 : IntKind.u64.wrap code = code := by rw [wrapU64]; omega
  have wc : IntKind.u8.wrap code = code := by rw [wrapU8]; omega
  have U := ul1 (0 :: 83 :: byteI code :: 69 :: bh) 1 hb (by omega) (by simp only [AllP]; repeat' (first | exact trivial | with_reducible apply And.intro | assumption | (simp; done) | (simp; omega) | omega))
  simp only [List.getElem?_cons_succ, List.getElem?_cons_zero, Option.getD_some, bc, w8] at U
  have L := lh0 (0 :: 83 :: byteI code :: 69 :: bh) 3 hb (by omega) (by simp only [AllP]; repeat' (first | exact trivial | with_reducible apply And.intro | assumption | (simp; done) | (simp; omega) | omega))
  have C := ch (0 :: 83 :: byteI code :: 69 :: bh) 0 3 4 hb (by omega) code 0 ⟨L, U, by simp, by simp, by simp <;> omega, trivial⟩
  rw [wc] at C
  have M := um (0 :: 83 :: byteI code :: 69 :: bh) 4 hb code ⟨C, trivial⟩
  have R := rd (0 :: 83 :: byteI code :: 69 :: bh) bh 4 hb (by simp <;> omega) (by simp) code ⟨by simp <;> omega, by simp <;> omega, M, hb, idle53, trivial⟩
  exact R.cast (by simp <;> omega) rfl (by simp <;> omega) (by simp)

theorem rd01 (bh : List UInt8) (hl : bh.length ≤ 200) : ACalls Tryd.prog noG 20 [.own 0 0 (6 + bh.length) none] [.bytes 5 (0 :: 83 :: byteI code :: 192 :: 1 :: 0 :: bh)] (.tup [.lit (.int .u8 code), .own 1 0 bh.length none, .lit (.bool true)]) [.bytes 5 (0 :: 83 :: byteI code :: 192 :: 1 :: 0 :: bh), .bytes 5 bh] := by
  have bc := byteC code h0 h1
  have hb : (0 :: 83 :: byteI code :: 192 :: 1 :: 0 :: bh : List UInt8).length ≤ 140737488355328 := by simp <;> omega
  have w8 : IntKind.u64.wrap code = code := by rw [wrapU64]; omega
  have wc : IntKind.u8.wrap code = code := by rw [wrapU8]; omega
  have U := ul1 (0 :: 83 :: byteI code :: 192 :: 1 :: 0 :: bh) 1 hb (by omega) (by simp only [AllP]; repeat' (first | exact trivial | with_reducible apply And.intro | assumption | (simp; done) | (simp; omega) | omega))
  simp only [List.getElem?_cons_succ, List.getElem?_cons_zero, Option.getD_some, bc, w8] at U
  have L := lh1 (0 :: 83 :: byteI code :: 192 :: 1 :: 0 :: bh) 3 hb (by omega) (by simp only [AllP]; repeat' (first | exact trivial | with_reducible apply And.intro | (simp [wrap64]; done) | (simp [wrap64]; omega) | omega))
  simp only [List.getElem?_cons_succ, List.getElem?_cons_zero, Option.getD_some] at L
  have C := ch (0 :: 83 :: byteI code :: 192 :: 1 :: 0 :: bh) 0 3 6 hb (by omega) code 0 ⟨L, U, by simp, by simp, by simp <;> omega, trivial⟩
  rw [wc] at C
  have M := um (0 :: 83 :: byteI code :: 192 :: 1 :: 0 :: bh) 6 hb code ⟨C, trivial⟩
  have R := rd (0 :: 83 :: byteI code :: 192 :: 1 :: 0 :: bh) bh 6 hb (by simp <;> omega) (by simp) code ⟨by simp <;> omega, by simp <;> omega, M, hb, idle53, trivial⟩
  exact R.cast (by simp <;> omega) rfl (by simp <;> omega) (by simp)

theorem rd02 (bh : List UInt8) (hl : bh.length ≤ 200) : ACalls Tryd.prog noG 20 [.own 0 0 (12 + bh.length) none] [.bytes 5 (0 :: 83 :: byteI code :: 208 :: 0 :: 0 :: 0 :: 4 :: 0 :: 0 :: 0 :: 0 :: bh)] (.tup [.lit (.int .u8 code), .own 1 0 bh.length none, .lit (.bool true)]) [.bytes 5 (0 :: 83 :: byteI code :: 208 :: 0 :: 0 :: 0 :: 4 :: 0 :: 0 :: 0 :: 0 :: bh), .bytes 5 bh] := by
  have bc := byteC code h0 h1
  have hb : (0 :: 83 :: byteI code :: 208 :: 0 :: 0 :: 0 :: 4 :: 0 :: 0 :: 0 :: 0 :: bh : List UInt8).length ≤ 140737488355328 := by simp <;> omega
  have w8 : IntKind.u64.wrap code = code := by rw [wrapU64]; omega
  have wc : IntKind.u8.wrap code = code := by rw [wrapU8]; omega
  have U := ul1 (0 :: 83 :: byteI code :: 208 :: 0 :: 0 :: 0 :: 4 :: 0 :: 0 :: 0 :: 0 :: bh) 1 hb (by omega) (by simp only [AllP]; repeat' (first | exact trivial | with_reducible apply And.intro | assumption | (simp; done) | (simp; omega) | omega))
  simp only [List.getElem?_cons_succ, List.getElem?_cons_zero, Option.getD_some, bc, w8] at U
  have va : beN (0 :: 83 :: byteI code :: 208 :: 0 :: 0 :: 0 :: 4 :: 0 :: 0 :: 0 :: 0 :: bh) 4 4 = 4 := by simp [beN]
  have vb : beN (0 :: 83 :: byteI code :: 208 :: 0 :: 0 :: 0 :: 4 :: 0 :: 0 :: 0 :: 0 :: bh) 8 4 = 0 := by simp [beN]
  have Ba := be4A noG (0 :: 83 :: byteI code :: 208 :: 0 :: 0 :: 0 :: 4 :: 0 :: 0 :: 0 :: 0 :: bh) 4 (by simp <;> omega)
  have Bb := be4A noG (0 :: 83 :: byteI code :: 208 :: 0 :: 0 :: 0 :: 4 :: 0 :: 0 :: 0 :: 0 :: bh) 8 (by simp <;> omega)
  rw [va] at Ba
  rw [vb] at Bb
  have L := lh4 (0 :: 83 :: byteI code :: 208 :: 0 :: 0 :: 0 :: 4 :: 0 :: 0 :: 0 :: 0 :: bh) 3 hb (by omega) 4 0 (by simp only [AllP]; repeat' (first | exact trivial | with_reducible apply And.intro | exact Ba | exact Bb | (simp [wrap64]; done) | (simp [wrap64]; omega) | omega))
  have C := ch (0 :: 83 :: byteI code :: 208 :: 0 :: 0 :: 0 :: 4 :: 0 :: 0 :: 0 :: 0 :: bh) 0 3 12 hb (by omega) code 0 ⟨L, U, by simp, by simp, by simp <;> omega, trivial⟩
  rw [wc] at C
  have M := um (0 :: 83 :: byteI code :: 208 :: 0 :: 0 :: 0 :: 4 :: 0 :: 0 :: 0 :: 0 :: bh) 12 hb code ⟨C, trivial⟩
  have R := rd (0 :: 83 :: byteI code :: 208 :: 0 :: 0 :: 0 :: 4 :: 0 :: 0 :: 0 :: 0 :: bh) bh 12 hb (by simp <;> omega) (by simp) code ⟨by simp <;> omega, by simp <;> omega, M, hb, idle53, trivial⟩
  exact R.cast (by simp <;> omega) rfl (by simp <;> omega) (by simp)

theorem rd10 (bh : List UInt8) (hl : bh.length ≤ 200) : ACalls Tryd.prog noG 20 [.own 0 0 (11 + bh.length) none] [.bytes 5 (0 :: 128 :: 0 :: 0 :: 0 :: 0 :: 0 :: 0 :: 0 :: byteI code :: 69 :: bh)] (.tup [.lit (.int .u8 code), .own 1 0 bh.length none, .lit (.bool true)]) [.bytes 5 (0 :: 128 :: 0 :: 0 :: 0 :: 0 :: 0 :: 0 :: 0 :: byteI code :: 69 :: bh), .bytes 5 bh] := by
  have bc := byteC code h0 h1
  have hb : (0 :: 128 :: 0 :: 0 :: 0 :: 0 :: 0 :: 0 :: 0 :: byteI code :: 69 :: bh : List UInt8).length ≤ 140737488355328 := by simp <;> omega
  have w8 : IntKind.u64.wrap code = code := by rw [wrapU64]; omega
  have wc : IntKind.u8.wrap code = code := by rw [wrapU8]; omega
  have v : beN (0 :: 128 :: 0 :: 0 :: 0 :: 0 :: 0 :: 0 :: 0 :: byteI code :: 69 :: bh) 2 8 = (byteI code).toNat := by simp [beN]
  have B := be8A noG (0 :: 128 :: 0 :: 0 :: 0 :: 0 :: 0 :: 0 :: 0 :: byteI code :: 69 :: bh) 2 (by simp <;> omega)
  rw [v, bc] at B
  have U := ul8 (0 :: 128 :: 0 :: 0 :: 0 :: 0 :: 0 :: 0 :: 0 :: byteI code :: 69 :: bh) 1 hb (by omega) code (by simp only [AllP]; repeat' (first | exact trivial | with_reducible apply And.intro | assumption | (simp; done) | (simp; omega) | omega))
  have L := lh0 (0 :: 128 :: 0 :: 0 :: 0 :: 0 :: 0 :: 0 :: 0 :: byteI code :: 69 :: bh) 10 hb (by omega) (by simp only [AllP]; repeat' (first | exact trivial | with_reducible apply And.intro | assumption | (simp; done) | (simp; omega) | omega))
  have C := ch (0 :: 128 :: 0 :: 0 :: 0 :: 0 :: 0 :: 0 :: 0 :: byteI code :: 69 :: bh) 0 10 11 hb (by omega) code 0 ⟨L, U, by simp, by simp, by simp <;> omega, trivial⟩
  rw [wc] at C
  have M := um (0 :: 128 :: 0 :: 0 :: 0 :: 0 :: 0 :: 0 :: 0 :: byteI code :: 69 :: bh) 11 hb code ⟨C, trivial⟩
  have R := rd (0 :: 128 :: 0 :: 0 :: 0 :: 0 :: 0 :: 0 :: 0 :: byteI code :: 69 :: bh) bh 11 hb (by simp <;> omega) (by simp) code ⟨by simp <;> omega, by simp <;> omega, M, hb, idle53, trivial⟩
  exact R.cast (by simp <;> omega) rfl (by simp <;> omega) (by simp)

theorem rd11 (bh : List UInt8) (hl : bh.length ≤ 200) : ACalls Tryd.prog noG 20 [.own 0 0 (13 + bh.length) none] [.bytes 5 (0 :: 128 :: 0 :: 0 :: 0 :: 0 :: 0 :: 0 :: 0 :: byteI code :: 192 :: 1 :: 0 :: bh)] (.tup [.lit (.int .u8 code), .own 1 0 bh.length none, .lit (.bool true)]) [.bytes 5 (0 :: 128 :: 0 :: 0 :: 0 :: 0 :: 0 :: 0 :: 0 :: byteI code :: 192 :: 1 :: 0 :: bh), .bytes 5 bh] := by
  have bc := byteC code h0 h1
  have hb : (0 :: 128 :: 0 :: 0 :: 0 :: 0 :: 0 :: 0 :: 0 :: byteI code :: 192 :: 1 :: 0 :: bh : List UInt8).length ≤ 140737488355328 := by simp <;> omega
  have w8 : IntKind.u64.wrap code = code := by rw [wrapU64]; omega
  have wc : IntKind.u8.wrap code = code := by rw [wrapU8]; omega
  have v : beN (0 :: 128 :: 0 :: 0 :: 0 :: 0 :: 0 :: 0 :: 0 :: byteI code :: 192 :: 1 :: 0 :: bh) 2 8 = (byteI code).toNat := by simp [beN]
  have B := be8A noG (0 :: 128 :: 0 :: 0 :: 0 :: 0 :: 0 :: 0 :: 0 :: byteI code :: 192 :: 1 :: 0 :: bh) 2 (by simp <;> omega)
  rw [v, bc] at B
  have U := ul8 (0 :: 128 :: 0 :: 0 :: 0 :: 0 :: 0 :: 0 :: 0 :: byteI code :: 192 :: 1 :: 0 :: bh) 1 hb (by omega) code (by simp only [AllP]; repeat' (first | exact trivial | with_reducible apply And.intro | assumption | (simp; done) | (simp; omega) | omega))
  have L := lh1 (0 :: 128 :: 0 :: 0 :: 0 :: 0 :: 0 :: 0 :: 0 :: byteI code :: 192 :: 1 :: 0 :: bh) 10 hb (by omega) (by simp only [AllP]; repeat' (first | exact trivial | with_reducible apply And.intro | (simp [wrap64]; done) | (simp [wrap64]; omega) | omega))
  simp only [List.getElem?_cons_succ, List.getElem?_cons_zero, Option.getD_some] at L
  have C := ch (0 :: 128 :: 0 :: 0 :: 0 :: 0 :: 0 :: 0 :: 0 :: byteI code :: 192 :: 1 :: 0 :: bh) 0 10 13 hb (by omega) code 0 ⟨L, U, by simp, by simp, by simp <;> omega, trivial⟩
  rw [wc] at C
  have M := um (0 :: 128 :: 0 :: 0 :: 0 :: 0 :: 0 :: 0 :: 0 :: byteI code :: 192 :: 1 :: 0 :: bh) 13 hb code ⟨C, trivial⟩
  have R := rd (0 :: 128 :: 0 :: 0 :: 0 :: 0 :: 0 :: 0 :: 0 :: byteI code :: 192 :: 1 :: 0 :: bh) bh 13 hb (by simp <;> omega) (by simp) code ⟨by simp <;> omega, by simp <;> omega, M, hb, idle53, trivial⟩
  exact R.cast (by simp <;> omega) rfl (by simp <;> omega) (by simp)

theorem rd12 (bh : List UInt8) (hl : bh.length ≤ 200) : ACalls Tryd.prog noG 20 [.own 0 0 (19 + bh.length) none] [.bytes 5 (0 :: 128 :: 0 :: 0 :: 0 :: 0 :: 0 :: 0 :: 0 :: byteI code :: 208 :: 0 :: 0 :: 0 :: 4 :: 0 :: 0 :: 0 :: 0 :: bh)] (.tup [.lit (.int .u8 code), .own 1 0 bh.length none, .lit (.bool true)]) [.bytes 5 (0 :: 128 :: 0 :: 0 :: 0 :: 0 :: 0 :: 0 :: 0 :: byteI code :: 208 :: 0 :: 0 :: 0 :: 4 :: 0 :: 0 :: 0 :: 0 :: bh), .bytes 5 bh] := by
  have bc := byteC code h0 h1
  have hb : (0 :: 128 :: 0 :: 0 :: 0 :: 0 :: 0 :: 0 :: 0 :: byteI code :: 208 :: 0 :: 0 :: 0 :: 4 :: 0 :: 0 :: 0 :: 0 :: bh : List UInt8).length ≤ 140737488355328 := by simp <;> omega
  have w8 : IntKind.u64.wrap code = code := by rw [wrapU64]; omega
  have wc : IntKind.u8.wrap code = code := by rw [wrapU8]; omega
  have v : beN (0 :: 128 :: 0 :: 0 :: 0 :: 0 :: 0 :: 0 :: 0 :: byteI code :: 208 :: 0 :: 0 :: 0 :: 4 :: 0 :: 0 :: 0 :: 0 :: bh) 2 8 = (byteI code).toNat := by simp [beN]
  have B := be8A noG (0 :: 128 :: 0 :: 0 :: 0 :: 0 :: 0 :: 0 :: 0 :: byteI code :: 208 :: 0 :: 0 :: 0 :: 4 :: 0 :: 0 :: 0 :: 0 :: bh) 2 (by simp <;> omega)
  rw [v, bc] at B
  have U := ul8 (0 :: 128 :: 0 :: 0 :: 0 :: 0 :: 0 :: 0 :: 0 :: byteI code :: 208 :: 0 :: 0 :: 0 :: 4 :: 0 :: 0 :: 0 :: 0 :: bh) 1 hb (by omega) code (by simp only [AllP]; repeat' (first | exact trivial | with_reducible apply And.intro | assumption | (simp; done) | (simp; omega) | omega))
  have va : beN (0 :: 128 :: 0 :: 0 :: 0 :: 0 :: 0 :: 0 :: 0 :: byteI code :: 208 :: 0 :: 0 :: 0 :: 4 :: 0 :: 0 :: 0 :: 0 :: bh) 11 4 = 4 := by simp [beN]
  have vb : beN (0 :: 128 :: 0 :: 0 :: 0 :: 0 :: 0 :: 0 :: 0 :: byteI code :: 208 :: 0 :: 0 :: 0 :: 4 :: 0 :: 0 :: 0 :: 0 :: bh) 15 4 = 0 := by simp [beN]
  have Ba := be4A noG (0 :: 128 :: 0 :: 0 :: 0 :: 0 :: 0 :: 0 :: 0 :: byteI code :: 208 :: 0 :: 0 :: 0 :: 4 :: 0 :: 0 :: 0 :: 0 :: bh) 11 (by simp <;> omega)
  have Bb := be4A noG (0 :: 128 :: 0 :: 0 :: 0 :: 0 :: 0 :: 0 :: 0 :: byteI code :: 208 :: 0 :: 0 :: 0 :: 4 :: 0 :: 0 :: 0 :: 0 :: bh) 15 (by simp <;> omega)
  rw [va] at Ba
  rw [vb] at Bb
  have L := lh4 (0 :: 128 :: 0 :: 0 :: 0 :: 0 :: 0 :: 0 :: 0 :: byteI code :: 208 :: 0 :: 0 :: 0 :: 4 :: 0 :: 0 :: 0 :: 0 :: bh) 10 hb (by omega) 4 0 (by simp only [AllP]; repeat' (first | exact trivial | with_reducible apply And.intro | exact Ba | exact Bb | (simp [wrap64]; done) | (simp [wrap64]; omega) | omega))
  have C := ch (0 :: 128 :: 0 :: 0 :: 0 :: 0 :: 0 :: 0 :: 0 :: byteI code :: 208 :: 0 :: 0 :: 0 :: 4 :: 0 :: 0 :: 0 :: 0 :: bh) 0 10 19 hb (by omega) code 0 ⟨L, U, by simp, by simp, by simp <;> omega, trivial⟩
  rw [wc] at C
  have M := um (0 :: 128 :: 0 :: 0 :: 0 :: 0 :: 0 :: 0 :: 0 :: byteI code :: 208 :: 0 :: 0 :: 0 :: 4 :: 0 :: 0 :: 0 :: 0 :: bh) 19 hb code ⟨C, trivial⟩
  have R := rd (0 :: 128 :: 0 :: 0 :: 0 :: 0 :: 0 :: 0 :: 0 :: byteI code :: 208 :: 0 :: 0 :: 0 :: 4 :: 0 :: 0 :: 0 :: 0 :: bh) bh 19 hb (by simp <;> omega) (by simp) code ⟨by simp <;> omega, by simp <;> omega, M, hb, idle53, trivial⟩
  exact R.cast (by simp <;> omega) rfl (by simp <;> omega) (by simp)

omit h0 in
theorem zeros (h0 : 0 ≤ code) : byteI (code.fdiv 72057594037927936) = 0 ∧ byteI (code.fdiv 281474976710656) = 0 ∧ byteI (code.fdiv 1099511627776) = 0 ∧ byteI (code.fdiv 4294967296) = 0 ∧ byteI (code.fdiv 16777216) = 0 ∧ byteI (code.fdiv 65536) = 0 ∧ byteI (code.fdiv 256) = 0 := by
  have z : ∀ k : Int, 256 ≤ k → byteI (code.fdiv k) = 0 := fun k hk => by
    rw [fdiv_pos _ _ (by omega), Int.ediv_eq_zero_of_lt h0 (by omega)]
    rfl
  exact ⟨z _ (by decide), z _ (by decide), z _ (by decide), z _ (by decide), z _ (by decide), z _ (by decide), z _ (by decide)⟩
end

theorem sampleL : ACalls Tryd.prog noG 20 [.own 0 0 4 (some 4)] [.bytes 5 [0, 83, 43, 69]] (.tup [.lit (.int .u8 43), .bts [], .lit (.bool true)]) [.gone] := by
  have a := rd00 43 (by decide) (by decide) [] (by simp)
  have b : byteI 43 = 43 := by decide
  rw [b] at a
  have a2 := ((a.freezeRet 1 rfl rfl).freezeRet 0 rfl rfl).only [0] rfl
  have a3 := a2.le (args' := [.own 0 0 4 (some 4)]) ⟨Le_cap _ _ _ _, trivial⟩ (Le.refl _) rfl
  exact a3.cast rfl rfl (by simp [AV.frz, AV.frzL, frzOwn, AV.ren, AV.renL]) rfl

theorem putL (code : Int) (h0 : 43 ≤ code) (h1 : code ≤ 46) (s : Int) (bh : List UInt8) (hl : bh.length ≤ 100) :
    ∃ (y : List UInt8) (s2 : Int), y.length ≤ 100 ∧ ACalls Tryd.prog noG 21 [.agg [.lit (.int .i64 21), .lit (.int .u64 0), .lit (.string .empty), .lit (.slice none 0 0), .lit (.int .i64 0), .own 0 0 1 (some 1)], .ptr 1 0] [.cells 25 6 [.lit (.int .i64 5), .lit (.int .u64 code), .lit (.string .empty), .lit (.slice none 0 0), .lit (.int .i64 0), .lit (.slice none 0 0)], FR s false] (.own 2 0 y.length none) [.cells 25 6 [.lit (.int .i64 5), .lit (.int .u64 code), .lit (.string .empty), .lit (.slice none 0 0), .lit (.int .i64 0), .lit (.slice none 0 0)], FR s2 false, .bytes 5 y] ∧
      ACalls Tryd.prog noG 20 [.own 0 0 (y.length + bh.length) none] [.bytes 5 (y ++ bh)] (.tup [.lit (.int .u8 code), .own 1 0 bh.length none, .lit (.bool true)]) [.bytes 5 (y ++ bh), .bytes 5 bh] := by
  obtain ⟨k1, s1, ⟨a0, a1⟩, p1⟩ := pickC 2 s false (by omega) (by omega)
  obtain ⟨k2, s2, ⟨b0, b1⟩, p2⟩ := pickC 3 s1 false (by omega) (by omega)
  obtain ⟨z1, z2, z3, z4, z5, z6, z7⟩ := zeros code (by omega) (by omega)
  have D : ∃ x : List UInt8, (x = [83, byteI code] ∨ x = [128, 0, 0, 0, 0, 0, 0, 0, byteI code]) ∧ ACalls Tryd.prog noG 21 [.agg [.lit (.int .i64 5), .lit (.int .u64 code), .lit (.string .empty), .lit (.slice none 0 0), .lit (.int .i64 0), .lit (.slice none 0 0)], .ptr 0 0] [FR s false] (.own 1 0 x.length none) [FR s1 false, .bytes 5 x] := by
    rcases (show k1 = 0 ∨ k1 = 1 by omega) with rfl | rfl
    · exact ⟨_, .inl rfl, pd0 code s s1 ⟨p1, by omega, by omega, trivial⟩⟩
    · refine ⟨_, .inr rfl, (pd1 code s s1 ⟨p1, by omega, by omega, trivial⟩).cast rfl rfl (by simp) (by simp [z1, z2, z3, z4, z5, z6, z7])⟩
  obtain ⟨x, hx, D⟩ := D
  have hxl : x.length ≤ 9 := by rcases hx with rfl | rfl <;> simp
  rcases (show k2 = 0 ∨ k2 = 1 ∨ k2 = 2 by omega) with rfl | rfl | rfl
  · refine ⟨0 :: (x ++ [69]), s2, by simp <;> omega, (pp0 code s s1 s2 x (by omega) ⟨by omega, p2, by omega, D, trivial⟩).cast rfl rfl (by simp <;> omega) rfl, ?_⟩
    rcases hx with rfl | rfl
    · exact (rd00 code (by omega) (by omega) bh (by omega)).cast (by simp <;> omega) (by simp) rfl (by simp)
    · exact (rd10 code (by omega) (by omega) bh (by omega)).cast (by simp <;> omega) (by simp) rfl (by simp)
  · refine ⟨0 :: (x ++ [192, 1, 0]), s2, by simp <;> omega, (pp1 code s s1 s2 x (by omega) ⟨by omega, by omega, p2, by omega, D, trivial⟩).cast rfl rfl (by simp <;> omega) rfl, ?_⟩
    rcases hx with rfl | rfl
    · exact (rd01 code (by omega) (by omega) bh (by omega)).cast (by simp <;> omega) (by simp) rfl (by simp)
    · exact (rd11 code (by omega) (by omega) bh (by omega)).cast (by simp <;> omega) (by simp) rfl (by simp)
  · refine ⟨0 :: (x ++ [208, 0, 0, 0, 4, 0, 0, 0, 0]), s2, by simp <;> omega, (pp2 code s s1 s2 x (by omega) ⟨by omega, by omega, p2, by omega, D, trivial⟩).cast rfl rfl (by simp <;> omega) rfl, ?_⟩
    rcases hx with rfl | rfl
    · exact (rd02 code (by omega) (by omega) bh (by omega)).cast (by simp <;> omega) (by simp) rfl (by simp)
    · exact (rd12 code (by omega) (by omega) bh (by omega)).cast (by simp <;> omega) (by simp) rfl (by simp)

theorem fnReadLifetimeC (code : Int) (h0 : 0 ≤ code) (h1 : code < 256) (s : Int) (bh : List UInt8) : ACalls Tryd.prog noG 5 [.lit (.int .u8 code), .lit (.int .u64 s), .bts bh] [] (.lit (.bool true)) [] := by
  by_cases hb : bh.length ≤ 2147483647
  · by_cases hc : (43 ≤ code ∧ code ≤ 46) ∧ bh.length ≤ 100
    · obtain ⟨⟨c0, c1⟩, hl⟩ := hc
      obtain ⟨y, s2, hy, P, R⟩ := putL code c0 c1 s bh hl
      have w : IntKind.u64.wrap code = code := by rw [wrapU64]; omega
      exact lq code s s2 y bh h0 h1 (by omega) ⟨R, by omega, P, Le.refl _, by rw [w]; exact RowLe.refl _, ⟨⟨c0, c1⟩, by omega⟩, sampleL, by omega, trivial⟩
    · exact lqA code s bh ⟨by omega, sampleL, by omega, trivial⟩
  · exact lqC code s bh ⟨by simp <;> omega, trivial⟩
end Go.Ax
