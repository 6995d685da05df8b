/-
  laws.FnGetInt8: what the function computes.
-/
import Derived.Test.YtdfefemnlimeeaaDoorHiB
import Derived.Test.YtdfefemnlimeeaaDoorHiA
set_option linter.unusedVariables false
set_option linter.unusedSimpArgs false
set_option maxRecDepth 100000
namespace Go.Ax
open Go.Proofs

section
variable (u0 : Nat)
abbrev RdI (d : List UInt8) (v : Int) (r : List UInt8) : Prop := ACalls Tryd.prog (gS u0) 41 [.bts d] [] (.tup [.lit (.int .i64 v), .bts r, .lit .nilIface]) []
abbrev NoI (d : List UInt8) : Prop := ∃ t, ACalls Tryd.prog (gS u0) 41 [.bts d] [] (.tup [.lit (.int .i64 0), .bts [], errAV t]) []

theorem noI0 : NoI u0 [] := ⟨_, (ii0 u0 trivial).le (leAll_refl _) (Le_n _ _ _ _) rfl⟩

theorem rdFix (b : UInt8) (h : b.toNat < 128) (d : List UInt8) : RdI u0 (b :: d) b.toNat d := by
  have i := is53yes (gS u0) b h
  have j := (rf54 b.toNat trivial).anyG (gS u0)
  have w : IntKind.i64.wrap (b.toNat : Int) = b.toNat := wrap64 (by omega) (by omega)
  have := (iiF u0 b d (by simp only [AllP, leAll]; repeat' (first | with_reducible apply And.intro | assumption | exact trivial | exact Le.refl _ | ((try simp only [Int.toNat_natCast, List.length_cons, List.take_length, List.drop_succ_cons, List.drop_zero, List.getD_cons_zero]) <;> (try simp) <;> (try omega); done))))
  rw [w] at this
  exact this.cast rfl rfl (by simp only [Int.toNat_natCast, List.take_length, List.drop_succ_cons, List.drop_zero, List.getD_cons_zero]; try simp) rfl

theorem rdNeg (b : UInt8) (h : 224 ≤ b.toNat) (d : List UInt8) : RdI u0 (b :: d) (IntKind.i8.wrap b.toNat) d := by
  have hb := b.toNat_lt
  have i := is53no (gS u0) b (by omega)
  have i' := is55yes (gS u0) b h
  have j := (rf56 b.toNat trivial).anyG (gS u0)
  have w : IntKind.i64.wrap (IntKind.i8.wrap (b.toNat : Int)) = IntKind.i8.wrap (b.toNat : Int) := by rw [wrapI8]; exact wrap64 (by omega) (by omega)
  have := (iiN u0 b d (IntKind.i8.wrap b.toNat) (by simp only [AllP, leAll]; repeat' (first | with_reducible apply And.intro | assumption | exact trivial | exact Le.refl _ | ((try simp only [Int.toNat_natCast, List.length_cons, List.take_length, List.drop_succ_cons, List.drop_zero, List.getD_cons_zero]) <;> (try simp) <;> (try omega); done))))
  rw [w] at this
  exact this.cast rfl rfl (by simp only [Int.toNat_natCast, List.take_length, List.drop_succ_cons, List.drop_zero, List.getD_cons_zero]; try simp) rfl

theorem noIX (b : UInt8) (d : List UInt8) (h1 : 128 ≤ b.toNat) (h2 : b.toNat < 224) (h3 : b.toNat < 204 ∨ 211 < b.toNat) : NoI u0 (b :: d) := by
  have i := is53no (gS u0) b h1
  have i' := is55no (gS u0) b h2
  obtain ⟨t, ht⟩ := badP (gS u0) 8 b
  have n204 : ((b.toNat : Int) == (204 : Int)) = false := by simp; omega
  have n205 : ((b.toNat : Int) == (205 : Int)) = false := by simp; omega
  have n206 : ((b.toNat : Int) == (206 : Int)) = false := by simp; omega
  have n207 : ((b.toNat : Int) == (207 : Int)) = false := by simp; omega
  have n208 : ((b.toNat : Int) == (208 : Int)) = false := by simp; omega
  have n209 : ((b.toNat : Int) == (209 : Int)) = false := by simp; omega
  have n210 : ((b.toNat : Int) == (210 : Int)) = false := by simp; omega
  have n211 : ((b.toNat : Int) == (211 : Int)) = false := by simp; omega
  exact ⟨t, (iiX u0 b d t (by simp only [AllP, leAll]; repeat' (first | with_reducible apply And.intro | assumption | exact trivial | exact Le.refl _ | ((try simp only [Int.toNat_natCast, List.length_cons, List.take_length, List.drop_succ_cons, List.drop_zero, List.getD_cons_zero]) <;> (try simp) <;> (try omega); done)))).le (leAll_refl _) (Le_n _ _ _ _) rfl⟩

theorem no208 (d : List UInt8) (h : d.length < 1) : NoI u0 (208 :: d) := by
  have i : ACalls Tryd.prog (gS u0) 53 [.lit (.int .u8 208)] [] (.lit (.bool false)) [] := is53no (gS u0) 208 (by decide)
  have i' : ACalls Tryd.prog (gS u0) 55 [.lit (.int .u8 208)] [] (.lit (.bool false)) [] := is55no (gS u0) 208 (by decide)
  exact ⟨_, (ii208e u0 d (by simp only [AllP, leAll]; repeat' (first | with_reducible apply And.intro | assumption | exact trivial | exact Le.refl _ | ((try simp only [Int.toNat_natCast, List.length_cons, List.take_length, List.drop_succ_cons, List.drop_zero, List.getD_cons_zero]) <;> (try simp) <;> (try omega); done)))).le (leAll_refl _) (Le_n _ _ _ _) rfl⟩
theorem rd208 (x : UInt8) (d : List UInt8) : RdI u0 (208 :: x :: d) (IntKind.i64.wrap (IntKind.i8.wrap (x.toNat : Int))) d := by
  have i : ACalls Tryd.prog (gS u0) 53 [.lit (.int .u8 208)] [] (.lit (.bool false)) [] := is53no (gS u0) 208 (by decide)
  have i' : ACalls Tryd.prog (gS u0) 55 [.lit (.int .u8 208)] [] (.lit (.bool false)) [] := is55no (gS u0) 208 (by decide)
  exact (ii208 u0 x d (by simp only [AllP, leAll]; repeat' (first | with_reducible apply And.intro | assumption | exact trivial | exact Le.refl _ | ((try simp only [Int.toNat_natCast, List.length_cons, List.take_length, List.drop_succ_cons, List.drop_zero, List.getD_cons_zero]) <;> (try simp) <;> (try omega); done)))).cast rfl rfl (by simp only [Int.toNat_natCast, List.take_length, List.drop_succ_cons, List.drop_zero, List.getD_cons_zero]; try simp) rfl

theorem no204 (d : List UInt8) (h : d.length < 1) : NoI u0 (204 :: d) := by
  have i : ACalls Tryd.prog (gS u0) 53 [.lit (.int .u8 204)] [] (.lit (.bool false)) [] := is53no (gS u0) 204 (by decide)
  have i' : ACalls Tryd.prog (gS u0) 55 [.lit (.int .u8 204)] [] (.lit (.bool false)) [] := is55no (gS u0) 204 (by decide)
  exact ⟨_, (ii204e u0 d (by simp only [AllP, leAll]; repeat' (first | with_reducible apply And.intro | assumption | exact trivial | exact Le.refl _ | ((try simp only [Int.toNat_natCast, List.length_cons, List.take_length, List.drop_succ_cons, List.drop_zero, List.getD_cons_zero]) <;> (try simp) <;> (try omega); done)))).le (leAll_refl _) (Le_n _ _ _ _) rfl⟩
theorem rd204 (x : UInt8) (d : List UInt8) : RdI u0 (204 :: x :: d) (IntKind.i64.wrap (x.toNat : Int)) d := by
  have i : ACalls Tryd.prog (gS u0) 53 [.lit (.int .u8 204)] [] (.lit (.bool false)) [] := is53no (gS u0) 204 (by decide)
  have i' : ACalls Tryd.prog (gS u0) 55 [.lit (.int .u8 204)] [] (.lit (.bool false)) [] := is55no (gS u0) 204 (by decide)
  exact (ii204 u0 x d (by simp only [AllP, leAll]; repeat' (first | with_reducible apply And.intro | assumption | exact trivial | exact Le.refl _ | ((try simp only [Int.toNat_natCast, List.length_cons, List.take_length, List.drop_succ_cons, List.drop_zero, List.getD_cons_zero]) <;> (try simp) <;> (try omega); done)))).cast rfl rfl (by simp only [Int.toNat_natCast, List.take_length, List.drop_succ_cons, List.drop_zero, List.getD_cons_zero]; try simp) rfl

theorem no209 (d : List UInt8) (h : d.length < 2) : NoI u0 (209 :: d) := by
  have i : ACalls Tryd.prog (gS u0) 53 [.lit (.int .u8 209)] [] (.lit (.bool false)) [] := is53no (gS u0) 209 (by decide)
  have i' : ACalls Tryd.prog (gS u0) 55 [.lit (.int .u8 209)] [] (.lit (.bool false)) [] := is55no (gS u0) 209 (by decide)
  exact ⟨_, (ii209e u0 d (by simp only [AllP, leAll]; repeat' (first | with_reducible apply And.intro | assumption | exact trivial | exact Le.refl _ | ((try simp only [Int.toNat_natCast, List.length_cons, List.take_length, List.drop_succ_cons, List.drop_zero, List.getD_cons_zero]) <;> (try simp) <;> (try omega); done)))).le (leAll_refl _) (Le_n _ _ _ _) rfl⟩
theorem rd209 (y0 y1 : UInt8) (n : Int) (hn : ((y1.toNat + y0.toNat * 2 ^ 8 : Nat) : Int) = n) (d : List UInt8) : RdI u0 (209 :: y0 :: y1 :: d) (IntKind.i64.wrap (IntKind.i16.wrap n)) d := by
  have i : ACalls Tryd.prog (gS u0) 53 [.lit (.int .u8 209)] [] (.lit (.bool false)) [] := is53no (gS u0) 209 (by decide)
  have i' : ACalls Tryd.prog (gS u0) 55 [.lit (.int .u8 209)] [] (.lit (.bool false)) [] := is55no (gS u0) 209 (by decide)
  have b := be2C (gS u0) y0 y1 d
  rw [hn] at b
  exact (ii209 u0 (y0 :: y1 :: d) n (by simp only [AllP, leAll]; repeat' (first | with_reducible apply And.intro | assumption | exact trivial | exact Le.refl _ | ((try simp only [Int.toNat_natCast, List.length_cons, List.take_length, List.drop_succ_cons, List.drop_zero, List.getD_cons_zero]) <;> (try simp) <;> (try omega); done)))).cast rfl rfl (by simp only [Int.toNat_natCast, List.take_length, List.drop_succ_cons, List.drop_zero, List.getD_cons_zero]; try simp) rfl

theorem no205 (d : List UInt8) (h : d.length < 2) : NoI u0 (205 :: d) := by
  have i : ACalls Tryd.prog (gS u0) 53 [.lit (.int .u8 205)] [] (.lit (.bool false)) [] := is53no (gS u0) 205 (by decide)
  have i' : ACalls Tryd.prog (gS u0) 55 [.lit (.int .u8 205)] [] (.lit (.bool false)) [] := is55no (gS u0) 205 (by decide)
  exact ⟨_, (ii205e u0 d (by simp only [AllP, leAll]; repeat' (first | with_reducible apply And.intro | assumption | exact trivial | exact Le.refl _ | ((try simp only [Int.toNat_natCast, List.length_cons, List.take_length, List.drop_succ_cons, List.drop_zero, List.getD_cons_zero]) <;> (try simp) <;> (try omega); done)))).le (leAll_refl _) (Le_n _ _ _ _) rfl⟩
theorem rd205 (y0 y1 : UInt8) (n : Int) (hn : ((y1.toNat + y0.toNat * 2 ^ 8 : Nat) : Int) = n) (d : List UInt8) : RdI u0 (205 :: y0 :: y1 :: d) (IntKind.i64.wrap n) d := by
  have i : ACalls Tryd.prog (gS u0) 53 [.lit (.int .u8 205)] [] (.lit (.bool false)) [] := is53no (gS u0) 205 (by decide)
  have i' : ACalls Tryd.prog (gS u0) 55 [.lit (.int .u8 205)] [] (.lit (.bool false)) [] := is55no (gS u0) 205 (by decide)
  have b := be2C (gS u0) y0 y1 d
  rw [hn] at b
  exact (ii205 u0 (y0 :: y1 :: d) n (by simp only [AllP, leAll]; repeat' (first | with_reducible apply And.intro | assumption | exact trivial | exact Le.refl _ | ((try simp only [Int.toNat_natCast, List.length_cons, List.take_length, List.drop_succ_cons, List.drop_zero, List.getD_cons_zero]) <;> (try simp) <;> (try omega); done)))).cast rfl rfl (by simp only [Int.toNat_natCast, List.take_length, List.drop_succ_cons, List.drop_zero, List.getD_cons_zero]; try simp) rfl

theorem no210 (d : List UInt8) (h : d.length < 4) : NoI u0 (210 :: d) := by
  have i : ACalls Tryd.prog (gS u0) 53 [.lit (.int .u8 210)] [] (.lit (.bool false)) [] := is53no (gS u0) 210 (by decide)
  have i' : ACalls Tryd.prog (gS u0) 55 [.lit (.int .u8 210)] [] (.lit (.bool false)) [] := is55no (gS u0) 210 (by decide)
  exact ⟨_, (ii210e u0 d (by simp only [AllP, leAll]; repeat' (first | with_reducible apply And.intro | assumption | exact trivial | exact Le.refl _ | ((try simp only [Int.toNat_natCast, List.length_cons, List.take_length, List.drop_succ_cons, List.drop_zero, List.getD_cons_zero]) <;> (try simp) <;> (try omega); done)))).le (leAll_refl _) (Le_n _ _ _ _) rfl⟩
theorem rd210 (y0 y1 y2 y3 : UInt8) (n : Int) (hn : ((y3.toNat + y2.toNat * 2 ^ 8 + y1.toNat * 2 ^ 16 + y0.toNat * 2 ^ 24 : Nat) : Int) = n) (d : List UInt8) : RdI u0 (210 :: y0 :: y1 :: y2 :: y3 :: d) (IntKind.i64.wrap (IntKind.i32.wrap n)) d := by
  have i : ACalls Tryd.prog (gS u0) 53 [.lit (.int .u8 210)] [] (.lit (.bool false)) [] := is53no (gS u0) 210 (by decide)
  have i' : ACalls Tryd.prog (gS u0) 55 [.lit (.int .u8 210)] [] (.lit (.bool false)) [] := is55no (gS u0) 210 (by decide)
  have b := be4C (gS u0) y0 y1 y2 y3 d
  rw [hn] at b
  exact (ii210 u0 (y0 :: y1 :: y2 :: y3 :: d) n (by simp only [AllP, leAll]; repeat' (first | with_reducible apply And.intro | assumption | exact trivial | exact Le.refl _ | ((try simp only [Int.toNat_natCast, List.length_cons, List.take_length, List.drop_succ_cons, List.drop_zero, List.getD_cons_zero]) <;> (try simp) <;> (try omega); done)))).cast rfl rfl (by simp only [Int.toNat_natCast, List.take_length, List.drop_succ_cons, List.drop_zero, List.getD_cons_zero]; try simp) rfl

theorem no206 (d : List UInt8) (h : d.length < 4) : NoI u0 (206 :: d) := by
  have i : ACalls Tryd.prog (gS u0) 53 [.lit (.int .u8 206)] [] (.lit (.bool false)) [] := is53no (gS u0) 206 (by decide)
  have i' : ACalls Tryd.prog (gS u0) 55 [.lit (.int .u8 206)] [] (.lit (.bool false)) [] := is55no (gS u0) 206 (by decide)
  exact ⟨_, (ii206e u0 d (by simp only [AllP, leAll]; repeat' (first | with_reducible apply And.intro | assumption | exact trivial | exact Le.refl _ | ((try simp only [Int.toNat_natCast, List.length_cons, List.take_length, List.drop_succ_cons, List.drop_zero, List.getD_cons_zero]) <;> (try simp) <;> (try omega); done)))).le (leAll_refl _) (Le_n _ _ _ _) rfl⟩
theorem rd206 (y0 y1 y2 y3 : UInt8) (n : Int) (hn : ((y3.toNat + y2.toNat * 2 ^ 8 + y1.toNat * 2 ^ 16 + y0.toNat * 2 ^ 24 : Nat) : Int) = n) (d : List UInt8) : RdI u0 (206 :: y0 :: y1 :: y2 :: y3 :: d) (IntKind.i64.wrap n) d := by
  have i : ACalls Tryd.prog (gS u0) 53 [.lit (.int .u8 206)] [] (.lit (.bool false)) [] := is53no (gS u0) 206 (by decide)
  have i' : ACalls Tryd.prog (gS u0) 55 [.lit (.int .u8 206)] [] (.lit (.bool false)) [] := is55no (gS u0) 206 (by decide)
  have b := be4C (gS u0) y0 y1 y2 y3 d
  rw [hn] at b
  exact (ii206 u0 (y0 :: y1 :: y2 :: y3 :: d) n (by simp only [AllP, leAll]; repeat' (first | with_reducible apply And.intro | assumption | exact trivial | exact Le.refl _ | ((try simp only [Int.toNat_natCast, List.length_cons, List.take_length, List.drop_succ_cons, List.drop_zero, List.getD_cons_zero]) <;> (try simp) <;> (try omega); done)))).cast rfl rfl (by simp only [Int.toNat_natCast, List.take_length, List.drop_succ_cons, List.drop_zero, List.getD_cons_zero]; try simp) rfl

theorem no211 (d : List UInt8) (h : d.length < 8) : NoI u0 (211 :: d) := by
  have i : ACalls Tryd.prog (gS u0) 53 [.lit (.int .u8 211)] [] (.lit (.bool false)) [] := is53no (gS u0) 211 (by decide)
  have i' : ACalls Tryd.prog (gS u0) 55 [.lit (.int .u8 211)] [] (.lit (.bool false)) [] := is55no (gS u0) 211 (by decide)
  exact ⟨_, (ii211e u0 d (by simp only [AllP, leAll]; repeat' (first | with_reducible apply And.intro | assumption | exact trivial | exact Le.refl _ | ((try simp only [Int.toNat_natCast, List.length_cons, List.take_length, List.drop_succ_cons, List.drop_zero, List.getD_cons_zero]) <;> (try simp) <;> (try omega); done)))).le (leAll_refl _) (Le_n _ _ _ _) rfl⟩
theorem rd211 (y0 y1 y2 y3 y4 y5 y6 y7 : UInt8) (n : Int) (hn : ((y7.toNat + y6.toNat * 2 ^ 8 + y5.toNat * 2 ^ 16 + y4.toNat * 2 ^ 24 + y3.toNat * 2 ^ 32 + y2.toNat * 2 ^ 40 + y1.toNat * 2 ^ 48 + y0.toNat * 2 ^ 56 : Nat) : Int) = n) (d : List UInt8) : RdI u0 (211 :: y0 :: y1 :: y2 :: y3 :: y4 :: y5 :: y6 :: y7 :: d) (IntKind.i64.wrap n) d := by
  have i : ACalls Tryd.prog (gS u0) 53 [.lit (.int .u8 211)] [] (.lit (.bool false)) [] := is53no (gS u0) 211 (by decide)
  have i' : ACalls Tryd.prog (gS u0) 55 [.lit (.int .u8 211)] [] (.lit (.bool false)) [] := is55no (gS u0) 211 (by decide)
  have b := be8C (gS u0) y0 y1 y2 y3 y4 y5 y6 y7 d
  rw [hn] at b
  exact (ii211 u0 (y0 :: y1 :: y2 :: y3 :: y4 :: y5 :: y6 :: y7 :: d) n (by simp only [AllP, leAll]; repeat' (first | with_reducible apply And.intro | assumption | exact trivial | exact Le.refl _ | ((try simp only [Int.toNat_natCast, List.length_cons, List.take_length, List.drop_succ_cons, List.drop_zero, List.getD_cons_zero]) <;> (try simp) <;> (try omega); done)))).cast rfl rfl (by simp only [Int.toNat_natCast, List.take_length, List.drop_succ_cons, List.drop_zero, List.getD_cons_zero]; try simp) rfl

theorem no207 (d : List UInt8) (h : d.length < 8) : NoI u0 (207 :: d) := by
  have i : ACalls Tryd.prog (gS u0) 53 [.lit (.int .u8 207)] [] (.lit (.bool false)) [] := is53no (gS u0) 207 (by decide)
  have i' : ACalls Tryd.prog (gS u0) 55 [.lit (.int .u8 207)] [] (.lit (.bool false)) [] := is55no (gS u0) 207 (by decide)
  exact ⟨_, (ii207e u0 d (by simp only [AllP, leAll]; repeat' (first | with_reducible apply And.intro | assumption | exact trivial | exact Le.refl _ | ((try simp only [Int.toNat_natCast, List.length_cons, List.take_length, List.drop_succ_cons, List.drop_zero, List.getD_cons_zero]) <;> (try simp) <;> (try omega); done)))).le (leAll_refl _) (Le_n _ _ _ _) rfl⟩
theorem rd207 (y0 y1 y2 y3 y4 y5 y6 y7 : UInt8) (n : Int) (hn : ((y7.toNat + y6.toNat * 2 ^ 8 + y5.toNat * 2 ^ 16 + y4.toNat * 2 ^ 24 + y3.toNat * 2 ^ 32 + y2.toNat * 2 ^ 40 + y1.toNat * 2 ^ 48 + y0.toNat * 2 ^ 56 : Nat) : Int) = n) (ho : n ≤ 9223372036854775807) (d : List UInt8) : RdI u0 (207 :: y0 :: y1 :: y2 :: y3 :: y4 :: y5 :: y6 :: y7 :: d) (IntKind.i64.wrap n) d := by
  have i : ACalls Tryd.prog (gS u0) 53 [.lit (.int .u8 207)] [] (.lit (.bool false)) [] := is53no (gS u0) 207 (by decide)
  have i' : ACalls Tryd.prog (gS u0) 55 [.lit (.int .u8 207)] [] (.lit (.bool false)) [] := is55no (gS u0) 207 (by decide)
  have b := be8C (gS u0) y0 y1 y2 y3 y4 y5 y6 y7 d
  rw [hn] at b
  have w : decide (n > (9223372036854775807 : Int)) = false := by simp; omega
  exact (ii207 u0 (y0 :: y1 :: y2 :: y3 :: y4 :: y5 :: y6 :: y7 :: d) n (by simp only [AllP, leAll]; repeat' (first | with_reducible apply And.intro | assumption | exact trivial | exact Le.refl _ | ((try simp only [Int.toNat_natCast, List.length_cons, List.take_length, List.drop_succ_cons, List.drop_zero, List.getD_cons_zero]) <;> (try simp) <;> (try omega); done)))).cast rfl rfl (by simp only [Int.toNat_natCast, List.take_length, List.drop_succ_cons, List.drop_zero, List.getD_cons_zero]; try simp) rfl
theorem rd207o (y0 y1 y2 y3 y4 y5 y6 y7 : UInt8) (n : Int) (hn : ((y7.toNat + y6.toNat * 2 ^ 8 + y5.toNat * 2 ^ 16 + y4.toNat * 2 ^ 24 + y3.toNat * 2 ^ 32 + y2.toNat * 2 ^ 40 + y1.toNat * 2 ^ 48 + y0.toNat * 2 ^ 56 : Nat) : Int) = n) (ho : 9223372036854775807 < n) (d : List UInt8) : NoI u0 (207 :: y0 :: y1 :: y2 :: y3 :: y4 :: y5 :: y6 :: y7 :: d) := by
  have i : ACalls Tryd.prog (gS u0) 53 [.lit (.int .u8 207)] [] (.lit (.bool false)) [] := is53no (gS u0) 207 (by decide)
  have i' : ACalls Tryd.prog (gS u0) 55 [.lit (.int .u8 207)] [] (.lit (.bool false)) [] := is55no (gS u0) 207 (by decide)
  have b := be8C (gS u0) y0 y1 y2 y3 y4 y5 y6 y7 d
  rw [hn] at b
  have w : decide (n > (9223372036854775807 : Int)) = true := by simp; omega
  exact ⟨_, (ii207o u0 (y0 :: y1 :: y2 :: y3 :: y4 :: y5 :: y6 :: y7 :: d) n (by simp only [AllP, leAll]; repeat' (first | with_reducible apply And.intro | assumption | exact trivial | exact Le.refl _ | ((try simp only [Int.toNat_natCast, List.length_cons, List.take_length, List.drop_succ_cons, List.drop_zero, List.getD_cons_zero]) <;> (try simp) <;> (try omega); done)))).le (leAll_refl _) (Le_n _ _ _ _) rfl⟩

theorem cutI (c : UInt8) (L : List UInt8) (h : ∀ d, d.length < L.length → NoI u0 (c :: d)) (m : Nat) (hm : m < (c :: L).length) : NoI u0 ((c :: L).take m) := by
  cases m with
  | zero => exact noI0 u0
  | succ k => exact h _ (by simp at hm ⊢; omega)

/-- What the codes of signed numbers are read as. -/
theorem sgI (u : Int) (h0 : 0 ≤ u) (h1 : u < 18446744073709551616) (i s : Nat) (hm : (i, s) ∈ [(0, 1), (1, 2), (2, 4), (3, 8)]) (hr : u < 2 ^ (8 * s - 1) ∨ 18446744073709551616 - 2 ^ (8 * s - 1) ≤ u) :
    (∀ r, RdI u0 ((UInt8.ofNat (208 + i) :: bigL u s) ++ r) (IntKind.i64.wrap u) r) ∧ ∀ m, m < (UInt8.ofNat (208 + i) :: bigL u s).length → NoI u0 ((UInt8.ofNat (208 + i) :: bigL u s).take m) := by
  simp at hm
  rcases hm with ⟨rfl, rfl⟩ | ⟨rfl, rfl⟩ | ⟨rfl, rfl⟩ | ⟨rfl, rfl⟩
  · rw [bigL1]
    refine ⟨fun r => ?_, fun m hm => cutI u0 208 _ (fun d hd => no208 u0 d (by simpa using hd)) m hm⟩
    have e : IntKind.i64.wrap u = IntKind.i64.wrap (IntKind.i8.wrap ((byteI u).toNat : Int)) := by
      rw [byteI_nat, wrapI8, wrapI64, wrapI64]; omega
    rw [e]
    exact rd208 u0 (byteI u) r
  · rw [bigL2]
    refine ⟨fun r => ?_, fun m hm => cutI u0 209 _ (fun d hd => no209 u0 d (by simpa using hd)) m hm⟩
    have e : IntKind.i64.wrap u = IntKind.i64.wrap (IntKind.i16.wrap (u % 65536)) := by
      rw [wrapI16, wrapI64, wrapI64]; omega
    rw [e]
    exact rd209 u0 _ _ _ (val2 u h0) r
  · rw [bigL4]
    refine ⟨fun r => ?_, fun m hm => cutI u0 210 _ (fun d hd => no210 u0 d (by simpa using hd)) m hm⟩
    have e : IntKind.i64.wrap u = IntKind.i64.wrap (IntKind.i32.wrap (u % 4294967296)) := by
      rw [wrapI32, wrapI64, wrapI64]; omega
    rw [e]
    exact rd210 u0 _ _ _ _ _ (val4 u h0) r
  · rw [bigL8]
    exact ⟨fun r => rd211 u0 _ _ _ _ _ _ _ _ _ (val8 u h0 h1) r, fun m hm => cutI u0 211 _ (fun d hd => no211 u0 d (by simpa using hd)) m hm⟩

/-- What the codes of numbers without a sign are read as. -/
theorem usI (u : Int) (h0 : 0 ≤ u) (h1 : u < 18446744073709551616) (p : Int × Int) (hp : p ∈ sizesOf u [(204, 1), (205, 2), (206, 4), (207, 8)]) :
    (∀ r, (u ≤ 9223372036854775807 → RdI u0 (headL p.1 p.2 u ++ r) (IntKind.i64.wrap u) r) ∧ (9223372036854775807 < u → NoI u0 (headL p.1 p.2 u ++ r))) ∧ ∀ m, m < (headL p.1 p.2 u).length → NoI u0 ((headL p.1 p.2 u).take m) := by
  obtain ⟨hm, hf⟩ := List.mem_filter.1 hp
  simp at hm
  rcases hm with rfl | rfl | rfl | rfl
  · have hlt : u < 256 := by
      simp only [fitB, Bool.or_eq_true, decide_eq_true_eq] at hf
      rcases hf with hf | hf
      · omega
      · exact hf
    have hh : headL 204 1 u = 204 :: bigL u 1 := rfl
    rw [hh, bigL1]
    refine ⟨fun r => ⟨fun _ => ?_, fun h => absurd h (by omega)⟩, fun m hm => cutI u0 204 _ (fun d hd => no204 u0 d (by simpa using hd)) m hm⟩
    have e : IntKind.i64.wrap u = IntKind.i64.wrap ((byteI u).toNat : Int) := by
      rw [byteI_nat]; congr 1; omega
    rw [e]
    exact rd204 u0 (byteI u) r
  · have hlt : u < 65536 := by
      simp only [fitB, Bool.or_eq_true, decide_eq_true_eq] at hf
      rcases hf with hf | hf
      · omega
      · exact hf
    have hh : headL 205 2 u = 205 :: bigL u 2 := rfl
    rw [hh, bigL2]
    refine ⟨fun r => ⟨fun _ => ?_, fun h => absurd h (by omega)⟩, fun m hm => cutI u0 205 _ (fun d hd => no205 u0 d (by simpa using hd)) m hm⟩
    exact rd205 u0 _ _ u ((val2 u h0).trans (by omega)) r
  · have hlt : u < 4294967296 := by
      simp only [fitB, Bool.or_eq_true, decide_eq_true_eq] at hf
      rcases hf with hf | hf
      · omega
      · exact hf
    have hh : headL 206 4 u = 206 :: bigL u 4 := rfl
    rw [hh, bigL4]
    refine ⟨fun r => ⟨fun _ => ?_, fun h => absurd h (by omega)⟩, fun m hm => cutI u0 206 _ (fun d hd => no206 u0 d (by simpa using hd)) m hm⟩
    exact rd206 u0 _ _ _ _ u ((val4 u h0).trans (by omega)) r
  · have hh : headL 207 8 u = 207 :: bigL u 8 := rfl
    rw [hh, bigL8]
    exact ⟨fun r => ⟨fun h => rd207 u0 _ _ _ _ _ _ _ _ u (val8 u h0 h1) h r, fun h => rd207o u0 _ _ _ _ _ _ _ _ u (val8 u h0 h1) h r⟩, fun m hm => cutI u0 207 _ (fun d hd => no207 u0 d (by simpa using hd)) m hm⟩

/-- Every form of an integer is read as the integer; one that does not fit is refused, and so is one that is cut. -/
theorem rdInt (u : Int) (h0 : 0 ≤ u) (h1 : u < 18446744073709551616) (sg : Bool) (out : List UInt8) (h : IntOut u sg out) :
    (∀ r, ((sg = true ∨ u ≤ 9223372036854775807) → RdI u0 (out ++ r) (IntKind.i64.wrap u) r) ∧ ((sg = false ∧ 9223372036854775807 < u) → NoI u0 (out ++ r))) ∧ ∀ m, m < out.length → NoI u0 (out.take m) := by
  have cut1 : ∀ b : UInt8, ∀ m, m < [b].length → NoI u0 ([b].take m) := fun b m hm => by
    have : m = 0 := by simpa using hm
    subst this
    exact noI0 u0
  unfold IntOut at h
  split at h
  · next hs =>
    rcases h with ⟨hu, rfl⟩ | ⟨i, s, hm, hu, rfl⟩
    · refine ⟨fun r => ⟨fun _ => ?_, fun h => absurd h.1 (by simp [hs.1])⟩, cut1 _⟩
      have hb : 224 ≤ (byteI u).toNat := by rw [byteI_nat]; omega
      have e : IntKind.i64.wrap u = IntKind.i8.wrap ((byteI u).toNat : Int) := by rw [byteI_nat, wrapI8, wrapI64]; omega
      rw [e]
      exact rdNeg u0 (byteI u) hb r
    · have S := sgI u0 u h0 h1 i s hm (.inr hu)
      exact ⟨fun r => ⟨fun _ => S.1 r, fun h => absurd h.1 (by simp [hs.1])⟩, S.2⟩
  · next hs =>
    rcases h with ⟨hu, rfl⟩ | ⟨p, hp, rfl⟩ | ⟨i, s, hm, hu, rfl⟩
    · refine ⟨fun r => ⟨fun _ => ?_, fun h => absurd h.2 (by omega)⟩, cut1 _⟩
      have hb : (byteI u).toNat < 128 := by rw [byteI_nat]; omega
      have e : IntKind.i64.wrap u = ((byteI u).toNat : Int) := by rw [byteI_nat, wrapI64]; omega
      rw [e]
      exact rdFix u0 (byteI u) hb r
    · have S := usI u0 u h0 h1 p hp
      refine ⟨fun r => ⟨fun h => (S.1 r).1 ?_, fun h => (S.1 r).2 h.2⟩, S.2⟩
      rcases h with h | h
      · by_cases hc : 9223372036854775808 ≤ u
        · exact absurd ⟨h, hc⟩ hs
        · omega
      · exact h
    · have S := sgI u0 u h0 h1 i s hm (.inl hu)
      refine ⟨fun r => ⟨fun _ => S.1 r, fun h => absurd h.2 ?_⟩, S.2⟩
      simp at hm
      rcases hm with ⟨rfl, rfl⟩ | ⟨rfl, rfl⟩ | ⟨rfl, rfl⟩ | ⟨rfl, rfl⟩ <;> simp at hu <;> omega
end
end Go.Ax
