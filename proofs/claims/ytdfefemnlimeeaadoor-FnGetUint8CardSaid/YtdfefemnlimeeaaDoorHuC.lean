/-
  laws.FnGetUint8: numbers without a sign, read.
-/
import Derived.Test.YtdfefemnlimeeaaDoorHiB
import Derived.Test.YtdfefemnlimeeaaDoorHiU
set_option linter.unusedVariables false
set_option linter.unusedSimpArgs false
set_option maxRecDepth 100000
namespace Go.Ax
open Go.Proofs

section
variable (u0 : Nat)
abbrev RdU (d : List UInt8) (v : Int) (r : List UInt8) : Prop := ACalls Tryd.prog (gS u0) 43 [.bts d] [] (.tup [.lit (.int .u64 v), .bts r, .lit .nilIface]) []
abbrev NoU (d : List UInt8) : Prop := ∃ t, ACalls Tryd.prog (gS u0) 43 [.bts d] [] (.tup [.lit (.int .u64 0), .bts [], errAV t]) []

theorem noU0 : NoU u0 [] := ⟨_, (uu0 u0 trivial).le (leAll_refl _) (Le_n _ _ _ _) rfl⟩

theorem rdFixU (b : UInt8) (h : b.toNat < 128) (d : List UInt8) : RdU u0 (b :: d) b.toNat d := by
  have i := is53yes (gS u0) b h
  have j := (rf54 b.toNat trivial).anyG (gS u0)
  have w : IntKind.u64.wrap (b.toNat : Int) = b.toNat := w64u _ (by omega) (by omega)
  have := (uuF u0 b d (by simp only [AllP, leAll]; repeat' (first | with_reducible apply And.intro | assumption | exact trivial | exact Le.refl _ | ((try simp only [Int.toNat_natCast, List.length_cons, List.take_length, List.drop_succ_cons, List.drop_zero, List.getD_cons_zero]) <;> (try simp) <;> (try omega); done))))
  rw [w] at this
  exact this.cast rfl rfl (by simp only [Int.toNat_natCast, List.take_length, List.drop_succ_cons, List.drop_zero, List.getD_cons_zero]; try simp) rfl

theorem noNegU (b : UInt8) (h : 224 ≤ b.toNat) (d : List UInt8) : NoU u0 (b :: d) := by
  have i := is53no (gS u0) b (by omega)
  have i' := is55yes (gS u0) b h
  have j := (rf56 b.toNat trivial).anyG (gS u0)
  have n204 : ((b.toNat : Int) == (204 : Int)) = false := by simp; omega
  have n205 : ((b.toNat : Int) == (205 : Int)) = false := by simp; omega
  have n206 : ((b.toNat : Int) == (206 : Int)) = false := by simp; omega
  have n207 : ((b.toNat : Int) == (207 : Int)) = false := by simp; omega
  have n208 : ((b.toNat : Int) == (208 : Int)) = false := by simp; omega
  have n209 : ((b.toNat : Int) == (209 : Int)) = false := by simp; omega
  have n210 : ((b.toNat : Int) == (210 : Int)) = false := by simp; omega
  have n211 : ((b.toNat : Int) == (211 : Int)) = false := by simp; omega
  exact ⟨_, (uuN u0 b d (IntKind.i8.wrap b.toNat) (by simp only [AllP, leAll]; repeat' (first | with_reducible apply And.intro | assumption | exact trivial | exact Le.refl _ | ((try simp only [Int.toNat_natCast, List.length_cons, List.take_length, List.drop_succ_cons, List.drop_zero, List.getD_cons_zero]) <;> (try simp) <;> (try omega); done)))).le (leAll_refl _) (Le_n _ _ _ _) rfl⟩

theorem noUX (b : UInt8) (d : List UInt8) (h1 : 128 ≤ b.toNat) (h2 : b.toNat < 224) (h3 : b.toNat < 204 ∨ 211 < b.toNat) : NoU u0 (b :: d) := by
  have i := is53no (gS u0) b h1
  have i' := is55no (gS u0) b h2
  obtain ⟨t, ht⟩ := badP (gS u0) 9 b
  have n204 : ((b.toNat : Int) == (204 : Int)) = false := by simp; omega
  have n205 : ((b.toNat : Int) == (205 : Int)) = false := by simp; omega
  have n206 : ((b.toNat : Int) == (206 : Int)) = false := by simp; omega
  have n207 : ((b.toNat : Int) == (207 : Int)) = false := by simp; omega
  have n208 : ((b.toNat : Int) == (208 : Int)) = false := by simp; omega
  have n209 : ((b.toNat : Int) == (209 : Int)) = false := by simp; omega
  have n210 : ((b.toNat : Int) == (210 : Int)) = false := by simp; omega
  have n211 : ((b.toNat : Int) == (211 : Int)) = false := by simp; omega
  exact ⟨t, (uuX u0 b d t (by simp only [AllP, leAll]; repeat' (first | with_reducible apply And.intro | assumption | exact trivial | exact Le.refl _ | ((try simp only [Int.toNat_natCast, List.length_cons, List.take_length, List.drop_succ_cons, List.drop_zero, List.getD_cons_zero]) <;> (try simp) <;> (try omega); done)))).le (leAll_refl _) (Le_n _ _ _ _) rfl⟩

theorem or16 (x y : UInt8) : (((BitVec.ofInt IntKind.i16.bits (IntKind.i16.wrap (IntKind.i16.wrap (x.toNat : Int) * (2 : Int) ^ Min.min (Int.toNat (8 : Int)) IntKind.i16.bits))) ||| (BitVec.ofInt IntKind.i16.bits (IntKind.i16.wrap (y.toNat : Int)))).toNat : Int) = ((y.toNat + x.toNat * 2 ^ 8 : Nat) : Int) := by
  have hx := x.toNat_lt
  have hy := y.toNat_lt
  have m : (2 : Int) ^ Min.min (Int.toNat (8 : Int)) IntKind.i16.bits = 256 := by decide
  have b16 : IntKind.i16.bits = 16 := rfl
  rw [m, b16, BitVec.toNat_or, BitVec.toNat_ofInt, BitVec.toNat_ofInt, wrapI16, wrapI16, wrapI16]
  have e1 : (((((x.toNat : Int) + 32768) % 65536 - 32768) * 256 + 32768) % 65536 - 32768) % ((2 ^ 16 : Nat) : Int) = ((x.toNat * 2 ^ 8 : Nat) : Int) := by omega
  have e2 : (((y.toNat : Int) + 32768) % 65536 - 32768) % ((2 ^ 16 : Nat) : Int) = (y.toNat : Int) := by omega
  rw [e1, e2, Int.toNat_natCast, Int.toNat_natCast, Nat.or_comm, orNat _ _ _ (by omega)]

theorem nu208 (d : List UInt8) (h : d.length < 1) : NoU u0 (208 :: d) := by
  have i : ACalls Tryd.prog (gS u0) 53 [.lit (.int .u8 208)] [] (.lit (.bool false)) [] := is53no (gS u0) 208 (by decide)
  exact ⟨_, (uu208e u0 d (by simp only [AllP, leAll]; repeat' (first | with_reducible apply And.intro | assumption | exact trivial | exact Le.refl _ | ((try simp only [Int.toNat_natCast, List.length_cons, List.take_length, List.drop_succ_cons, List.drop_zero, List.getD_cons_zero]) <;> (try simp) <;> (try omega); done)))).le (leAll_refl _) (Le_n _ _ _ _) rfl⟩
theorem ru208 (x : UInt8) (h : x.toNat < 128) (d : List UInt8) : RdU u0 (208 :: x :: d) x.toNat d := by
  have i : ACalls Tryd.prog (gS u0) 53 [.lit (.int .u8 208)] [] (.lit (.bool false)) [] := is53no (gS u0) 208 (by decide)
  have w : IntKind.i64.wrap (IntKind.i8.wrap (x.toNat : Int)) = x.toNat := by rw [wrapI8, wrapI64]; omega
  have w2 : IntKind.u64.wrap (IntKind.i64.wrap (IntKind.i8.wrap (x.toNat : Int))) = x.toNat := by rw [w]; exact w64u _ (by omega) (by omega)
  have w3 : decide (IntKind.i64.wrap (IntKind.i8.wrap (x.toNat : Int)) < (0 : Int)) = false := by rw [w]; simp
  exact (uu208 u0 x d (by simp only [AllP, leAll]; repeat' (first | with_reducible apply And.intro | assumption | exact trivial | exact Le.refl _ | ((try simp only [Int.toNat_natCast, List.length_cons, List.take_length, List.drop_succ_cons, List.drop_zero, List.getD_cons_zero]) <;> (try simp) <;> (try omega); done)))).cast rfl rfl (by simp only [Int.toNat_natCast, List.take_length, List.drop_succ_cons, List.drop_zero, List.getD_cons_zero, w2]; try simp) rfl
theorem ru208o (x : UInt8) (h : 128 ≤ x.toNat) (d : List UInt8) : NoU u0 (208 :: x :: d) := by
  have i : ACalls Tryd.prog (gS u0) 53 [.lit (.int .u8 208)] [] (.lit (.bool false)) [] := is53no (gS u0) 208 (by decide)
  have hx := x.toNat_lt
  have w : IntKind.i64.wrap (IntKind.i8.wrap (x.toNat : Int)) = x.toNat - 256 := by rw [wrapI8, wrapI64]; omega
  have w3 : decide (IntKind.i64.wrap (IntKind.i8.wrap (x.toNat : Int)) < (0 : Int)) = true := by rw [w]; simp; omega
  exact ⟨_, (uu208o u0 x d (by simp only [AllP, leAll]; repeat' (first | with_reducible apply And.intro | assumption | exact trivial | exact Le.refl _ | ((try simp only [Int.toNat_natCast, List.length_cons, List.take_length, List.drop_succ_cons, List.drop_zero, List.getD_cons_zero]) <;> (try simp) <;> (try omega); done)))).le (leAll_refl _) (Le_n _ _ _ _) rfl⟩

theorem nu204 (d : List UInt8) (h : d.length < 1) : NoU u0 (204 :: d) := by
  have i : ACalls Tryd.prog (gS u0) 53 [.lit (.int .u8 204)] [] (.lit (.bool false)) [] := is53no (gS u0) 204 (by decide)
  exact ⟨_, (uu204e u0 d (by simp only [AllP, leAll]; repeat' (first | with_reducible apply And.intro | assumption | exact trivial | exact Le.refl _ | ((try simp only [Int.toNat_natCast, List.length_cons, List.take_length, List.drop_succ_cons, List.drop_zero, List.getD_cons_zero]) <;> (try simp) <;> (try omega); done)))).le (leAll_refl _) (Le_n _ _ _ _) rfl⟩
theorem ru204 (x : UInt8) (d : List UInt8) : RdU u0 (204 :: x :: d) x.toNat d := by
  have i : ACalls Tryd.prog (gS u0) 53 [.lit (.int .u8 204)] [] (.lit (.bool false)) [] := is53no (gS u0) 204 (by decide)
  have hx := x.toNat_lt
  have w : IntKind.u64.wrap (x.toNat : Int) = x.toNat := w64u _ (by omega) (by omega)
  exact (uu204 u0 x d (by simp only [AllP, leAll]; repeat' (first | with_reducible apply And.intro | assumption | exact trivial | exact Le.refl _ | ((try simp only [Int.toNat_natCast, List.length_cons, List.take_length, List.drop_succ_cons, List.drop_zero, List.getD_cons_zero]) <;> (try simp) <;> (try omega); done)))).cast rfl rfl (by simp only [Int.toNat_natCast, List.take_length, List.drop_succ_cons, List.drop_zero, List.getD_cons_zero, w]; try simp) rfl

theorem nu209 (d : List UInt8) (h : d.length < 2) : NoU u0 (209 :: d) := by
  have i : ACalls Tryd.prog (gS u0) 53 [.lit (.int .u8 209)] [] (.lit (.bool false)) [] := is53no (gS u0) 209 (by decide)
  exact ⟨_, (uu209e u0 d (by simp only [AllP, leAll]; repeat' (first | with_reducible apply And.intro | assumption | exact trivial | exact Le.refl _ | ((try simp only [Int.toNat_natCast, List.length_cons, List.take_length, List.drop_succ_cons, List.drop_zero, List.getD_cons_zero]) <;> (try simp) <;> (try omega); done)))).le (leAll_refl _) (Le_n _ _ _ _) rfl⟩
theorem ru209 (x y : UInt8) (n : Int) (hn : ((y.toNat + x.toNat * 2 ^ 8 : Nat) : Int) = n) (h : n < 32768) (d : List UInt8) : RdU u0 (209 :: x :: y :: d) n d := by
  have i : ACalls Tryd.prog (gS u0) 53 [.lit (.int .u8 209)] [] (.lit (.bool false)) [] := is53no (gS u0) 209 (by decide)
  have h0 : 0 ≤ n := by omega
  have w : IntKind.i64.wrap (IntKind.i16.wrap (((BitVec.ofInt IntKind.i16.bits (IntKind.i16.wrap (IntKind.i16.wrap (x.toNat : Int) * (2 : Int) ^ Min.min (Int.toNat (8 : Int)) IntKind.i16.bits))) ||| (BitVec.ofInt IntKind.i16.bits (IntKind.i16.wrap (y.toNat : Int)))).toNat : Int)) = n := by rw [or16, hn, wrapI16, wrapI64]; omega
  have w3 : decide (IntKind.i64.wrap (IntKind.i16.wrap (((BitVec.ofInt IntKind.i16.bits (IntKind.i16.wrap (IntKind.i16.wrap (x.toNat : Int) * (2 : Int) ^ Min.min (Int.toNat (8 : Int)) IntKind.i16.bits))) ||| (BitVec.ofInt IntKind.i16.bits (IntKind.i16.wrap (y.toNat : Int)))).toNat : Int)) < (0 : Int)) = false := by rw [w]; simp; omega
  refine (uu209 u0 x y d (by simp only [AllP, leAll]; repeat' (first | with_reducible apply And.intro | assumption | exact trivial | exact Le.refl _ | ((try simp only [Int.toNat_natCast, List.length_cons, List.take_length, List.drop_succ_cons, List.drop_zero, List.getD_cons_zero]) <;> (try simp) <;> (try omega); done)))).cast rfl rfl ?_ rfl
  show AV.tup [AV.lit (.int .u64 (IntKind.u64.wrap (IntKind.i64.wrap (IntKind.i16.wrap (((BitVec.ofInt IntKind.i16.bits (IntKind.i16.wrap (IntKind.i16.wrap (x.toNat : Int) * (2 : Int) ^ Min.min (Int.toNat (8 : Int)) IntKind.i16.bits))) ||| (BitVec.ofInt IntKind.i16.bits (IntKind.i16.wrap (y.toNat : Int)))).toNat : Int))))), AV.bts (List.drop 2 (List.take (↑(List.drop 1 (List.take (↑((209 : UInt8) :: x :: y :: d).length : Int).toNat ((209 : UInt8) :: x :: y :: d))).length : Int).toNat (List.drop 1 (List.take (↑((209 : UInt8) :: x :: y :: d).length : Int).toNat ((209 : UInt8) :: x :: y :: d))))), AV.lit Go.Value.nilIface] = _
  rw [w, w64u _ h0 (by omega)]
  simp only [Int.toNat_natCast, List.take_length, List.drop_succ_cons, List.drop_zero]
theorem ru209o (x y : UInt8) (n : Int) (hn : ((y.toNat + x.toNat * 2 ^ 8 : Nat) : Int) = n) (h : 32768 ≤ n) (d : List UInt8) : NoU u0 (209 :: x :: y :: d) := by
  have i : ACalls Tryd.prog (gS u0) 53 [.lit (.int .u8 209)] [] (.lit (.bool false)) [] := is53no (gS u0) 209 (by decide)
  have hx := x.toNat_lt
  have hy := y.toNat_lt
  have w : IntKind.i64.wrap (IntKind.i16.wrap (((BitVec.ofInt IntKind.i16.bits (IntKind.i16.wrap (IntKind.i16.wrap (x.toNat : Int) * (2 : Int) ^ Min.min (Int.toNat (8 : Int)) IntKind.i16.bits))) ||| (BitVec.ofInt IntKind.i16.bits (IntKind.i16.wrap (y.toNat : Int)))).toNat : Int)) = n - 65536 := by rw [or16, hn, wrapI16, wrapI64]; omega
  have w3 : decide (IntKind.i64.wrap (IntKind.i16.wrap (((BitVec.ofInt IntKind.i16.bits (IntKind.i16.wrap (IntKind.i16.wrap (x.toNat : Int) * (2 : Int) ^ Min.min (Int.toNat (8 : Int)) IntKind.i16.bits))) ||| (BitVec.ofInt IntKind.i16.bits (IntKind.i16.wrap (y.toNat : Int)))).toNat : Int)) < (0 : Int)) = true := by rw [w]; simp; omega
  exact ⟨_, (uu209o u0 x y d (by simp only [AllP, leAll]; repeat' (first | with_reducible apply And.intro | assumption | exact trivial | exact Le.refl _ | ((try simp only [Int.toNat_natCast, List.length_cons, List.take_length, List.drop_succ_cons, List.drop_zero, List.getD_cons_zero]) <;> (try simp) <;> (try omega); done)))).le (leAll_refl _) (Le_n _ _ _ _) rfl⟩

theorem nu205 (d : List UInt8) (h : d.length < 2) : NoU u0 (205 :: d) := by
  have i : ACalls Tryd.prog (gS u0) 53 [.lit (.int .u8 205)] [] (.lit (.bool false)) [] := is53no (gS u0) 205 (by decide)
  exact ⟨_, (uu205e u0 d (by simp only [AllP, leAll]; repeat' (first | with_reducible apply And.intro | assumption | exact trivial | exact Le.refl _ | ((try simp only [Int.toNat_natCast, List.length_cons, List.take_length, List.drop_succ_cons, List.drop_zero, List.getD_cons_zero]) <;> (try simp) <;> (try omega); done)))).le (leAll_refl _) (Le_n _ _ _ _) rfl⟩
theorem ru205 (y0 y1 : UInt8) (n : Int) (hn : ((y1.toNat + y0.toNat * 2 ^ 8 : Nat) : Int) = n) (hb : n < 65536) (d : List UInt8) : RdU u0 (205 :: y0 :: y1 :: d) n d := by
  have i : ACalls Tryd.prog (gS u0) 53 [.lit (.int .u8 205)] [] (.lit (.bool false)) [] := is53no (gS u0) 205 (by decide)
  have b := be2C (gS u0) y0 y1 d
  have h0 : 0 ≤ n := by omega
  rw [hn] at b
  have w : IntKind.u64.wrap n = n := w64u _ h0 (by omega)
  exact (uu205 u0 (y0 :: y1 :: d) n (by simp only [AllP, leAll]; repeat' (first | with_reducible apply And.intro | assumption | exact trivial | exact Le.refl _ | ((try simp only [Int.toNat_natCast, List.length_cons, List.take_length, List.drop_succ_cons, List.drop_zero, List.getD_cons_zero]) <;> (try simp) <;> (try omega); done)))).cast rfl rfl (by simp only [Int.toNat_natCast, List.take_length, List.drop_succ_cons, List.drop_zero, List.getD_cons_zero, w]; try simp) rfl

theorem nu210 (d : List UInt8) (h : d.length < 4) : NoU u0 (210 :: d) := by
  have i : ACalls Tryd.prog (gS u0) 53 [.lit (.int .u8 210)] [] (.lit (.bool false)) [] := is53no (gS u0) 210 (by decide)
  exact ⟨_, (uu210e u0 d (by simp only [AllP, leAll]; repeat' (first | with_reducible apply And.intro | assumption | exact trivial | exact Le.refl _ | ((try simp only [Int.toNat_natCast, List.length_cons, List.take_length, List.drop_succ_cons, List.drop_zero, List.getD_cons_zero]) <;> (try simp) <;> (try omega); done)))).le (leAll_refl _) (Le_n _ _ _ _) rfl⟩
theorem ru210 (y0 y1 y2 y3 : UInt8) (n : Int) (hn : ((y3.toNat + y2.toNat * 2 ^ 8 + y1.toNat * 2 ^ 16 + y0.toNat * 2 ^ 24 : Nat) : Int) = n) (h : n < 2147483648) (d : List UInt8) : RdU u0 (210 :: y0 :: y1 :: y2 :: y3 :: d) n d := by
  have i : ACalls Tryd.prog (gS u0) 53 [.lit (.int .u8 210)] [] (.lit (.bool false)) [] := is53no (gS u0) 210 (by decide)
  have b := be4C (gS u0) y0 y1 y2 y3 d
  have h0 : 0 ≤ n := by omega
  rw [hn] at b
  have w : IntKind.i64.wrap (IntKind.i32.wrap n) = n := by rw [wrapI32, wrapI64]; omega
  have w2 : IntKind.u64.wrap (IntKind.i64.wrap (IntKind.i32.wrap n)) = n := by rw [w]; exact w64u _ h0 (by omega)
  have w3 : decide (IntKind.i64.wrap (IntKind.i32.wrap n) < (0 : Int)) = false := by rw [w]; simp; omega
  exact (uu210 u0 (y0 :: y1 :: y2 :: y3 :: d) n (by simp only [AllP, leAll]; repeat' (first | with_reducible apply And.intro | assumption | exact trivial | exact Le.refl _ | ((try simp only [Int.toNat_natCast, List.length_cons, List.take_length, List.drop_succ_cons, List.drop_zero, List.getD_cons_zero]) <;> (try simp) <;> (try omega); done)))).cast rfl rfl (by simp only [Int.toNat_natCast, List.take_length, List.drop_succ_cons, List.drop_zero, List.getD_cons_zero, w2]; try simp) rfl
theorem ru210o (y0 y1 y2 y3 : UInt8) (n : Int) (hn : ((y3.toNat + y2.toNat * 2 ^ 8 + y1.toNat * 2 ^ 16 + y0.toNat * 2 ^ 24 : Nat) : Int) = n) (h : 2147483648 ≤ n) (hb : n < 4294967296) (d : List UInt8) : NoU u0 (210 :: y0 :: y1 :: y2 :: y3 :: d) := by
  have i : ACalls Tryd.prog (gS u0) 53 [.lit (.int .u8 210)] [] (.lit (.bool false)) [] := is53no (gS u0) 210 (by decide)
  have b := be4C (gS u0) y0 y1 y2 y3 d
  have h0 : 0 ≤ n := by omega
  rw [hn] at b
  have w : IntKind.i64.wrap (IntKind.i32.wrap n) = n - 4294967296 := by rw [wrapI32, wrapI64]; omega
  have w3 : decide (IntKind.i64.wrap (IntKind.i32.wrap n) < (0 : Int)) = true := by rw [w]; simp; omega
  exact ⟨_, (uu210o u0 (y0 :: y1 :: y2 :: y3 :: d) n (by simp only [AllP, leAll]; repeat' (first | with_reducible apply And.intro | assumption | exact trivial | exact Le.refl _ | ((try simp only [Int.toNat_natCast, List.length_cons, List.take_length, List.drop_succ_cons, List.drop_zero, List.getD_cons_zero]) <;> (try simp) <;> (try omega); done)))).le (leAll_refl _) (Le_n _ _ _ _) rfl⟩

theorem nu206 (d : List UInt8) (h : d.length < 4) : NoU u0 (206 :: d) := by
  have i : ACalls Tryd.prog (gS u0) 53 [.lit (.int .u8 206)] [] (.lit (.bool false)) [] := is53no (gS u0) 206 (by decide)
  exact ⟨_, (uu206e u0 d (by simp only [AllP, leAll]; repeat' (first | with_reducible apply And.intro | assumption | exact trivial | exact Le.refl _ | ((try simp only [Int.toNat_natCast, List.length_cons, List.take_length, List.drop_succ_cons, List.drop_zero, List.getD_cons_zero]) <;> (try simp) <;> (try omega); done)))).le (leAll_refl _) (Le_n _ _ _ _) rfl⟩
theorem ru206 (y0 y1 y2 y3 : UInt8) (n : Int) (hn : ((y3.toNat + y2.toNat * 2 ^ 8 + y1.toNat * 2 ^ 16 + y0.toNat * 2 ^ 24 : Nat) : Int) = n) (hb : n < 4294967296) (d : List UInt8) : RdU u0 (206 :: y0 :: y1 :: y2 :: y3 :: d) n d := by
  have i : ACalls Tryd.prog (gS u0) 53 [.lit (.int .u8 206)] [] (.lit (.bool false)) [] := is53no (gS u0) 206 (by decide)
  have b := be4C (gS u0) y0 y1 y2 y3 d
  have h0 : 0 ≤ n := by omega
  rw [hn] at b
  have w : IntKind.u64.wrap n = n := w64u _ h0 (by omega)
  exact (uu206 u0 (y0 :: y1 :: y2 :: y3 :: d) n (by simp only [AllP, leAll]; repeat' (first | with_reducible apply And.intro | assumption | exact trivial | exact Le.refl _ | ((try simp only [Int.toNat_natCast, List.length_cons, List.take_length, List.drop_succ_cons, List.drop_zero, List.getD_cons_zero]) <;> (try simp) <;> (try omega); done)))).cast rfl rfl (by simp only [Int.toNat_natCast, List.take_length, List.drop_succ_cons, List.drop_zero, List.getD_cons_zero, w]; try simp) rfl

theorem nu211 (d : List UInt8) (h : d.length < 8) : NoU u0 (211 :: d) := by
  have i : ACalls Tryd.prog (gS u0) 53 [.lit (.int .u8 211)] [] (.lit (.bool false)) [] := is53no (gS u0) 211 (by decide)
  exact ⟨_, (uu211e u0 d (by simp only [AllP, leAll]; repeat' (first | with_reducible apply And.intro | assumption | exact trivial | exact Le.refl _ | ((try simp only [Int.toNat_natCast, List.length_cons, List.take_length, List.drop_succ_cons, List.drop_zero, List.getD_cons_zero]) <;> (try simp) <;> (try omega); done)))).le (leAll_refl _) (Le_n _ _ _ _) rfl⟩
theorem ru211 (y0 y1 y2 y3 y4 y5 y6 y7 : UInt8) (n : Int) (hn : ((y7.toNat + y6.toNat * 2 ^ 8 + y5.toNat * 2 ^ 16 + y4.toNat * 2 ^ 24 + y3.toNat * 2 ^ 32 + y2.toNat * 2 ^ 40 + y1.toNat * 2 ^ 48 + y0.toNat * 2 ^ 56 : Nat) : Int) = n) (h : n < 9223372036854775808) (d : List UInt8) : RdU u0 (211 :: y0 :: y1 :: y2 :: y3 :: y4 :: y5 :: y6 :: y7 :: d) n d := by
  have i : ACalls Tryd.prog (gS u0) 53 [.lit (.int .u8 211)] [] (.lit (.bool false)) [] := is53no (gS u0) 211 (by decide)
  have b := be8C (gS u0) y0 y1 y2 y3 y4 y5 y6 y7 d
  have h0 : 0 ≤ n := by omega
  rw [hn] at b
  have w : IntKind.i64.wrap (n) = n := by rw [wrapI64]; omega
  have w2 : IntKind.u64.wrap (IntKind.i64.wrap (n)) = n := by rw [w]; exact w64u _ h0 (by omega)
  have w3 : decide (IntKind.i64.wrap (n) < (0 : Int)) = false := by rw [w]; simp; omega
  exact (uu211 u0 (y0 :: y1 :: y2 :: y3 :: y4 :: y5 :: y6 :: y7 :: d) n (by simp only [AllP, leAll]; repeat' (first | with_reducible apply And.intro | assumption | exact trivial | exact Le.refl _ | ((try simp only [Int.toNat_natCast, List.length_cons, List.take_length, List.drop_succ_cons, List.drop_zero, List.getD_cons_zero]) <;> (try simp) <;> (try omega); done)))).cast rfl rfl (by simp only [Int.toNat_natCast, List.take_length, List.drop_succ_cons, List.drop_zero, List.getD_cons_zero, w2]; try simp) rfl
theorem ru211o (y0 y1 y2 y3 y4 y5 y6 y7 : UInt8) (n : Int) (hn : ((y7.toNat + y6.toNat * 2 ^ 8 + y5.toNat * 2 ^ 16 + y4.toNat * 2 ^ 24 + y3.toNat * 2 ^ 32 + y2.toNat * 2 ^ 40 + y1.toNat * 2 ^ 48 + y0.toNat * 2 ^ 56 : Nat) : Int) = n) (h : 9223372036854775808 ≤ n) (hb : n < 18446744073709551616) (d : List UInt8) : NoU u0 (211 :: y0 :: y1 :: y2 :: y3 :: y4 :: y5 :: y6 :: y7 :: d) := by
  have i : ACalls Tryd.prog (gS u0) 53 [.lit (.int .u8 211)] [] (.lit (.bool false)) [] := is53no (gS u0) 211 (by decide)
  have b := be8C (gS u0) y0 y1 y2 y3 y4 y5 y6 y7 d
  have h0 : 0 ≤ n := by omega
  rw [hn] at b
  have w : IntKind.i64.wrap (n) = n - 18446744073709551616 := by rw [wrapI64]; omega
  have w3 : decide (IntKind.i64.wrap (n) < (0 : Int)) = true := by rw [w]; simp; omega
  exact ⟨_, (uu211o u0 (y0 :: y1 :: y2 :: y3 :: y4 :: y5 :: y6 :: y7 :: d) n (by simp only [AllP, leAll]; repeat' (first | with_reducible apply And.intro | assumption | exact trivial | exact Le.refl _ | ((try simp only [Int.toNat_natCast, List.length_cons, List.take_length, List.drop_succ_cons, List.drop_zero, List.getD_cons_zero]) <;> (try simp) <;> (try omega); done)))).le (leAll_refl _) (Le_n _ _ _ _) rfl⟩

theorem nu207 (d : List UInt8) (h : d.length < 8) : NoU u0 (207 :: d) := by
  have i : ACalls Tryd.prog (gS u0) 53 [.lit (.int .u8 207)] [] (.lit (.bool false)) [] := is53no (gS u0) 207 (by decide)
  exact ⟨_, (uu207e u0 d (by simp only [AllP, leAll]; repeat' (first | with_reducible apply And.intro | assumption | exact trivial | exact Le.refl _ | ((try simp only [Int.toNat_natCast, List.length_cons, List.take_length, List.drop_succ_cons, List.drop_zero, List.getD_cons_zero]) <;> (try simp) <;> (try omega); done)))).le (leAll_refl _) (Le_n _ _ _ _) rfl⟩
theorem ru207 (y0 y1 y2 y3 y4 y5 y6 y7 : UInt8) (n : Int) (hn : ((y7.toNat + y6.toNat * 2 ^ 8 + y5.toNat * 2 ^ 16 + y4.toNat * 2 ^ 24 + y3.toNat * 2 ^ 32 + y2.toNat * 2 ^ 40 + y1.toNat * 2 ^ 48 + y0.toNat * 2 ^ 56 : Nat) : Int) = n) (hb : n < 18446744073709551616) (d : List UInt8) : RdU u0 (207 :: y0 :: y1 :: y2 :: y3 :: y4 :: y5 :: y6 :: y7 :: d) n d := by
  have i : ACalls Tryd.prog (gS u0) 53 [.lit (.int .u8 207)] [] (.lit (.bool false)) [] := is53no (gS u0) 207 (by decide)
  have b := be8C (gS u0) y0 y1 y2 y3 y4 y5 y6 y7 d
  have h0 : 0 ≤ n := by omega
  rw [hn] at b
  exact (uu207 u0 (y0 :: y1 :: y2 :: y3 :: y4 :: y5 :: y6 :: y7 :: d) n (by simp only [AllP, leAll]; repeat' (first | with_reducible apply And.intro | assumption | exact trivial | exact Le.refl _ | ((try simp only [Int.toNat_natCast, List.length_cons, List.take_length, List.drop_succ_cons, List.drop_zero, List.getD_cons_zero]) <;> (try simp) <;> (try omega); done)))).cast rfl rfl (by simp only [Int.toNat_natCast, List.take_length, List.drop_succ_cons, List.drop_zero, List.getD_cons_zero]; try simp) rfl

theorem cutU (c : UInt8) (L : List UInt8) (h : ∀ d, d.length < L.length → NoU u0 (c :: d)) (m : Nat) (hm : m < (c :: L).length) : NoU u0 ((c :: L).take m) := by
  cases m with
  | zero => exact noU0 u0
  | succ k => exact h _ (by simp at hm ⊢; omega)

/-- What the codes of signed numbers are read as. -/
theorem sgU (u : Int) (h0 : 0 ≤ u) (h1 : u < 18446744073709551616) (i s : Nat) (hm : (i, s) ∈ [(0, 1), (1, 2), (2, 4), (3, 8)]) :
    (∀ r, (u < 2 ^ (8 * s - 1) → RdU u0 ((UInt8.ofNat (208 + i) :: bigL u s) ++ r) u r) ∧ (18446744073709551616 - 2 ^ (8 * s - 1) ≤ u → NoU u0 ((UInt8.ofNat (208 + i) :: bigL u s) ++ r))) ∧
    ∀ m, m < (UInt8.ofNat (208 + i) :: bigL u s).length → NoU u0 ((UInt8.ofNat (208 + i) :: bigL u s).take m) := by
  simp at hm
  rcases hm with ⟨rfl, rfl⟩ | ⟨rfl, rfl⟩ | ⟨rfl, rfl⟩ | ⟨rfl, rfl⟩
  · rw [bigL1]
    refine ⟨fun r => ⟨fun h => ?_, fun h => ?_⟩, fun m hm => cutU u0 208 _ (fun d hd => nu208 u0 d (by simpa using hd)) m hm⟩
    · have := ru208 u0 (byteI u) (by rw [byteI_nat]; omega) r
      have e : ((byteI u).toNat : Int) = u := by rw [byteI_nat]; omega
      rw [e] at this
      exact this
    · exact ru208o u0 (byteI u) (by rw [byteI_nat]; omega) r
  · rw [bigL2]
    refine ⟨fun r => ⟨fun h => ?_, fun h => ?_⟩, fun m hm => cutU u0 209 _ (fun d hd => nu209 u0 d (by simpa using hd)) m hm⟩
    · exact ru209 u0 _ _ u ((val2 u h0).trans (by omega)) (by omega) r
    · exact ru209o u0 _ _ (u % 65536) (val2 u h0) (by omega) r
  · rw [bigL4]
    refine ⟨fun r => ⟨fun h => ?_, fun h => ?_⟩, fun m hm => cutU u0 210 _ (fun d hd => nu210 u0 d (by simpa using hd)) m hm⟩
    · exact ru210 u0 _ _ _ _ u ((val4 u h0).trans (by omega)) (by omega) r
    · exact ru210o u0 _ _ _ _ (u % 4294967296) (val4 u h0) (by omega) (by omega) r
  · rw [bigL8]
    refine ⟨fun r => ⟨fun h => ?_, fun h => ?_⟩, fun m hm => cutU u0 211 _ (fun d hd => nu211 u0 d (by simpa using hd)) m hm⟩
    · exact ru211 u0 _ _ _ _ _ _ _ _ u (val8 u h0 h1) (by omega) r
    · exact ru211o u0 _ _ _ _ _ _ _ _ u (val8 u h0 h1) (by omega) (by omega) r

/-- What the codes of numbers without a sign are read as. -/
theorem usU (u : Int) (h0 : 0 ≤ u) (h1 : u < 18446744073709551616) (p : Int × Int) (hp : p ∈ sizesOf u [(204, 1), (205, 2), (206, 4), (207, 8)]) :
    (∀ r, RdU u0 (headL p.1 p.2 u ++ r) u r) ∧ ∀ m, m < (headL p.1 p.2 u).length → NoU u0 ((headL p.1 p.2 u).take m) := by
  obtain ⟨hm, hf⟩ := List.mem_filter.1 hp
  simp at hm
  rcases hm with rfl | rfl | rfl | rfl
  · have hlt : u < 256 := by
      simp only [fitB, Bool.or_eq_true, decide_eq_true_eq] at hf
      rcases hf with hf | hf
      · omega
      · exact hf
    have hh : headL 204 1 u = 204 :: bigL u 1 := rfl
    rw [hh, bigL1]
    refine ⟨fun r => ?_, fun m hm => cutU u0 204 _ (fun d hd => nu204 u0 d (by simpa using hd)) m hm⟩
    have := ru204 u0 (byteI u) r
    have e : ((byteI u).toNat : Int) = u := by rw [byteI_nat]; omega
    rw [e] at this
    exact this
  · have hlt : u < 65536 := by
      simp only [fitB, Bool.or_eq_true, decide_eq_true_eq] at hf
      rcases hf with hf | hf
      · omega
      · exact hf
    have hh : headL 205 2 u = 205 :: bigL u 2 := rfl
    rw [hh, bigL2]
    exact ⟨fun r => ru205 u0 _ _ u ((val2 u h0).trans (by omega)) hlt r, fun m hm => cutU u0 205 _ (fun d hd => nu205 u0 d (by simpa using hd)) m hm⟩
  · have hlt : u < 4294967296 := by
      simp only [fitB, Bool.or_eq_true, decide_eq_true_eq] at hf
      rcases hf with hf | hf
      · omega
      · exact hf
    have hh : headL 206 4 u = 206 :: bigL u 4 := rfl
    rw [hh, bigL4]
    exact ⟨fun r => ru206 u0 _ _ _ _ u ((val4 u h0).trans (by omega)) hlt r, fun m hm => cutU u0 206 _ (fun d hd => nu206 u0 d (by simpa using hd)) m hm⟩
  · have hh : headL 207 8 u = 207 :: bigL u 8 := rfl
    rw [hh, bigL8]
    exact ⟨fun r => ru207 u0 _ _ _ _ _ _ _ _ u (val8 u h0 h1) h1 r, fun m hm => cutU u0 207 _ (fun d hd => nu207 u0 d (by simpa using hd)) m hm⟩

/-- Every form of an integer is read as the integer; a negative one is refused, and so is one that is cut. -/
theorem rdUint (u : Int) (h0 : 0 ≤ u) (h1 : u < 18446744073709551616) (sg : Bool) (out : List UInt8) (h : IntOut u sg out) :
    (∀ r, ((sg = false ∨ u ≤ 9223372036854775807) → RdU u0 (out ++ r) u r) ∧ ((sg = true ∧ 9223372036854775807 < u) → NoU u0 (out ++ r))) ∧ ∀ m, m < out.length → NoU u0 (out.take m) := by
  have cut1 : ∀ b : UInt8, ∀ m, m < [b].length → NoU u0 ([b].take m) := fun b m hm => by
    have : m = 0 := by simpa using hm
    subst this
    exact noU0 u0
  unfold IntOut at h
  split at h
  · next hs =>
    have nx : ¬ (sg = false ∨ u ≤ 9223372036854775807) := by
      rintro (h | h)
      · rw [hs.1] at h; cases h
      · omega
    rcases h with ⟨hu, rfl⟩ | ⟨i, s, hm, hu, rfl⟩
    · exact ⟨fun r => ⟨fun h => absurd h nx, fun _ => noNegU u0 (byteI u) (by rw [byteI_nat]; omega) r⟩, cut1 _⟩
    · have S := sgU u0 u h0 h1 i s hm
      exact ⟨fun r => ⟨fun h => absurd h nx, fun _ => (S.1 r).2 hu⟩, S.2⟩
  · next hs =>
    have nx : ¬ (sg = true ∧ 9223372036854775807 < u) := fun h => hs ⟨h.1, by omega⟩
    rcases h with ⟨hu, rfl⟩ | ⟨p, hp, rfl⟩ | ⟨i, s, hm, hu, rfl⟩
    · refine ⟨fun r => ⟨fun _ => ?_, fun h => absurd h nx⟩, cut1 _⟩
      have := rdFixU u0 (byteI u) (by rw [byteI_nat]; omega) r
      have e : ((byteI u).toNat : Int) = u := by rw [byteI_nat]; omega
      rw [e] at this
      exact this
    · have S := usU u0 u h0 h1 p hp
      exact ⟨fun r => ⟨fun _ => S.1 r, fun h => absurd h nx⟩, S.2⟩
    · have S := sgU u0 u h0 h1 i s hm
      exact ⟨fun r => ⟨fun _ => (S.1 r).1 hu, fun h => absurd h nx⟩, S.2⟩
end
end Go.Ax
