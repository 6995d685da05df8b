/-
  Sizes of MessagePack's values, as getSize tells them.
-/
import Derived.Test.YtdfefemnlimeeaaDoorHiP
import Derived.Test.YtdfefemnlimeeaaDoorSkA
set_option linter.unusedVariables false
set_option linter.unusedSimpArgs false
set_option maxRecDepth 100000
namespace Go.Ax
open Go.Proofs

section
variable (u0 : Nat)
abbrev GZ (d : List UInt8) (sz ob : Int) : Prop := ACalls Tryd.prog (gS u0) 52 [.bts d] [] (.tup [.lit (.int .u64 sz), .lit (.int .u64 ob), .lit .nilIface]) []
abbrev GE (d : List UInt8) : Prop := ∃ t, ACalls Tryd.prog (gS u0) 52 [.bts d] [] (.tup [.lit (.int .u64 0), .lit (.int .u64 0), errAV t]) []

theorem Le_z (x y : AV) (t : Nat) (v : AV) : Le (.tup [x, y, .ifc t v]) (.tup [x, y, errAV t]) := Le_tup ⟨Le.refl _, Le.refl _, Le_ifc _ _, trivial⟩

theorem gz0 : GE u0 [] := ⟨_, (gs0 u0 trivial).le (leAll_refl _) (Le_z _ _ _ _) rfl⟩

theorem wu (n : Int) (h0 : 0 ≤ n) (h : n < 18446744073709551616) : IntKind.u64.wrap n = n := by rw [wrapU64]; omega

theorem gzFix (b : UInt8) (d : List UInt8) (a e c z : Int) (hb : ACalls Tryd.prog noG 60 [.lit (.int .u8 (b.toNat : Int))] [] (bsAV a e c z) []) (ha : 0 < a) (ha' : a < 256) (he : 0 ≤ e) (he' : e < 128) : GZ u0 (b :: d) a e := by
  have g := (g59 b.toNat a e c z ⟨hb, trivial⟩).anyG (gS u0)
  have wa : IntKind.i64.wrap a = a := wrap64 (by omega) (by omega)
  have na : (a == (0 : Int)) = false := by simp; omega
  have ne : decide (e ≥ (0 : Int)) = true := by simp; omega
  have := gsC u0 b d a e c z (by simp only [AllP, leAll]; repeat' (first | with_reducible apply And.intro | assumption | exact trivial | exact Le.refl _ | ((try simp only [Int.toNat_natCast, List.length_cons, List.take_length, List.drop_succ_cons, List.drop_zero, List.getD_cons_zero, wa]) <;> (try simp) <;> (try omega); done)))
  rw [wu a (by omega) (by omega), wu e he (by omega)] at this
  exact this

theorem gz1s (b : UInt8) (d : List UInt8) (a c z : Int) (hb : ACalls Tryd.prog noG 60 [.lit (.int .u8 (b.toNat : Int))] [] (bsAV a (-1) c z) []) (ha : 0 < a) (ha' : a < 256) (h : (b :: d).length < a) : GE u0 (b :: d) := by
  have g := (g59 b.toNat a (-1) c z ⟨hb, trivial⟩).anyG (gS u0)
  have wa : IntKind.i64.wrap a = a := wrap64 (by omega) (by omega)
  have na : (a == (0 : Int)) = false := by simp; omega
  have nl : decide ((((b :: d).length : Nat) : Int) < IntKind.i64.wrap a) = true := by rw [wa]; simpa using h
  exact ⟨_, (gs1s u0 b d a c z (by simp only [AllP, leAll]; repeat' (first | with_reducible apply And.intro | assumption | exact trivial | exact Le.refl _ | ((try simp only [Int.toNat_natCast, List.length_cons, List.take_length, List.drop_succ_cons, List.drop_zero, List.getD_cons_zero, wa]) <;> (try simp) <;> (try omega); done)))).le (leAll_refl _) (Le_z _ _ _ _) rfl⟩
theorem gz1 (b x : UInt8) (d : List UInt8) (a c z : Int) (hb : ACalls Tryd.prog noG 60 [.lit (.int .u8 (b.toNat : Int))] [] (bsAV a (-1) c z) []) (ha : 0 < a) (ha' : a < 256) (h : a ≤ (b :: x :: d).length) : GZ u0 (b :: x :: d) (a + x.toNat) 0 := by
  have hx := x.toNat_lt
  have g := (g59 b.toNat a (-1) c z ⟨hb, trivial⟩).anyG (gS u0)
  have wa : IntKind.i64.wrap a = a := wrap64 (by omega) (by omega)
  have na : (a == (0 : Int)) = false := by simp; omega
  have nl : decide ((((b :: x :: d).length : Nat) : Int) < IntKind.i64.wrap a) = false := by rw [wa]; simpa using h
  have e : IntKind.u64.wrap (IntKind.u64.wrap a + IntKind.u64.wrap (x.toNat : Int)) = a + x.toNat := by rw [wu a (by omega) (by omega), wu (x.toNat : Int) (by omega) (by omega), wu _ (by omega) (by omega)]
  have := gs1 u0 b x d a c z (by simp only [AllP, leAll]; repeat' (first | with_reducible apply And.intro | assumption | exact trivial | exact Le.refl _ | ((try simp only [Int.toNat_natCast, List.length_cons, List.take_length, List.drop_succ_cons, List.drop_zero, List.getD_cons_zero, wa]) <;> (try simp) <;> (try omega); done)))
  rw [← e]
  exact this

theorem gz2s (b : UInt8) (d : List UInt8) (a c z : Int) (hb : ACalls Tryd.prog noG 60 [.lit (.int .u8 (b.toNat : Int))] [] (bsAV a (-2) c z) []) (ha : 0 < a) (ha' : a < 256) (h : (b :: d).length < a) : GE u0 (b :: d) := by
  have g := (g59 b.toNat a (-2) c z ⟨hb, trivial⟩).anyG (gS u0)
  have wa : IntKind.i64.wrap a = a := wrap64 (by omega) (by omega)
  have na : (a == (0 : Int)) = false := by simp; omega
  have nl : decide ((((b :: d).length : Nat) : Int) < IntKind.i64.wrap a) = true := by rw [wa]; simpa using h
  exact ⟨_, (gs2s u0 b d a c z (by simp only [AllP, leAll]; repeat' (first | with_reducible apply And.intro | assumption | exact trivial | exact Le.refl _ | ((try simp only [Int.toNat_natCast, List.length_cons, List.take_length, List.drop_succ_cons, List.drop_zero, List.getD_cons_zero, wa]) <;> (try simp) <;> (try omega); done)))).le (leAll_refl _) (Le_z _ _ _ _) rfl⟩
theorem gz2 (b x0 x1 : UInt8) (d : List UInt8) (a c z n : Int) (hb : ACalls Tryd.prog noG 60 [.lit (.int .u8 (b.toNat : Int))] [] (bsAV a (-2) c z) []) (ha : 0 < a) (ha' : a < 256) (h : a ≤ (b :: x0 :: x1 :: d).length) (hn : ((x1.toNat + x0.toNat * 2 ^ 8 : Nat) : Int) = n) (hn' : n < 65536) : GZ u0 (b :: x0 :: x1 :: d) (a + n) (0) := by
  have g := (g59 b.toNat a (-2) c z ⟨hb, trivial⟩).anyG (gS u0)
  have wa : IntKind.i64.wrap a = a := wrap64 (by omega) (by omega)
  have na : (a == (0 : Int)) = false := by simp; omega
  have h0 : 0 ≤ n := by omega
  have bb := be2C (gS u0) x0 x1 d
  rw [hn] at bb
  have nl : decide ((((b :: x0 :: x1 :: d).length : Nat) : Int) < IntKind.i64.wrap a) = false := by rw [wa]; simpa using h
  have := gs2 u0 b (x0 :: x1 :: d) a c z n (by simp only [AllP, leAll]; repeat' (first | with_reducible apply And.intro | assumption | exact trivial | exact Le.refl _ | ((try simp only [Int.toNat_natCast, List.length_cons, List.take_length, List.drop_succ_cons, List.drop_zero, List.getD_cons_zero, wa]) <;> (try simp) <;> (try omega); done)))
  simp only [wu a (by omega) (by omega), wu n h0 (by omega)] at this
  first
    | exact this
    | (rw [wu _ (by omega) (by omega)] at this; exact this)

theorem gz3s (b : UInt8) (d : List UInt8) (a c z : Int) (hb : ACalls Tryd.prog noG 60 [.lit (.int .u8 (b.toNat : Int))] [] (bsAV a (-3) c z) []) (ha : 0 < a) (ha' : a < 256) (h : (b :: d).length < a) : GE u0 (b :: d) := by
  have g := (g59 b.toNat a (-3) c z ⟨hb, trivial⟩).anyG (gS u0)
  have wa : IntKind.i64.wrap a = a := wrap64 (by omega) (by omega)
  have na : (a == (0 : Int)) = false := by simp; omega
  have nl : decide ((((b :: d).length : Nat) : Int) < IntKind.i64.wrap a) = true := by rw [wa]; simpa using h
  exact ⟨_, (gs3s u0 b d a c z (by simp only [AllP, leAll]; repeat' (first | with_reducible apply And.intro | assumption | exact trivial | exact Le.refl _ | ((try simp only [Int.toNat_natCast, List.length_cons, List.take_length, List.drop_succ_cons, List.drop_zero, List.getD_cons_zero, wa]) <;> (try simp) <;> (try omega); done)))).le (leAll_refl _) (Le_z _ _ _ _) rfl⟩
theorem gz3 (b x0 x1 x2 x3 : UInt8) (d : List UInt8) (a c z n : Int) (hb : ACalls Tryd.prog noG 60 [.lit (.int .u8 (b.toNat : Int))] [] (bsAV a (-3) c z) []) (ha : 0 < a) (ha' : a < 256) (h : a ≤ (b :: x0 :: x1 :: x2 :: x3 :: d).length) (hn : ((x3.toNat + x2.toNat * 2 ^ 8 + x1.toNat * 2 ^ 16 + x0.toNat * 2 ^ 24 : Nat) : Int) = n) (hn' : n < 4294967296) : GZ u0 (b :: x0 :: x1 :: x2 :: x3 :: d) (a + n) (0) := by
  have g := (g59 b.toNat a (-3) c z ⟨hb, trivial⟩).anyG (gS u0)
  have wa : IntKind.i64.wrap a = a := wrap64 (by omega) (by omega)
  have na : (a == (0 : Int)) = false := by simp; omega
  have h0 : 0 ≤ n := by omega
  have bb := be4C (gS u0) x0 x1 x2 x3 d
  rw [hn] at bb
  have nl : decide ((((b :: x0 :: x1 :: x2 :: x3 :: d).length : Nat) : Int) < IntKind.i64.wrap a) = false := by rw [wa]; simpa using h
  have := gs3 u0 b (x0 :: x1 :: x2 :: x3 :: d) a c z n (by simp only [AllP, leAll]; repeat' (first | with_reducible apply And.intro | assumption | exact trivial | exact Le.refl _ | ((try simp only [Int.toNat_natCast, List.length_cons, List.take_length, List.drop_succ_cons, List.drop_zero, List.getD_cons_zero, wa]) <;> (try simp) <;> (try omega); done)))
  simp only [wu a (by omega) (by omega), wu n h0 (by omega)] at this
  first
    | exact this
    | (rw [wu _ (by omega) (by omega)] at this; exact this)

theorem gz4s (b : UInt8) (d : List UInt8) (a c z : Int) (hb : ACalls Tryd.prog noG 60 [.lit (.int .u8 (b.toNat : Int))] [] (bsAV a (-4) c z) []) (ha : 0 < a) (ha' : a < 256) (h : (b :: d).length < a) : GE u0 (b :: d) := by
  have g := (g59 b.toNat a (-4) c z ⟨hb, trivial⟩).anyG (gS u0)
  have wa : IntKind.i64.wrap a = a := wrap64 (by omega) (by omega)
  have na : (a == (0 : Int)) = false := by simp; omega
  have nl : decide ((((b :: d).length : Nat) : Int) < IntKind.i64.wrap a) = true := by rw [wa]; simpa using h
  exact ⟨_, (gs4s u0 b d a c z (by simp only [AllP, leAll]; repeat' (first | with_reducible apply And.intro | assumption | exact trivial | exact Le.refl _ | ((try simp only [Int.toNat_natCast, List.length_cons, List.take_length, List.drop_succ_cons, List.drop_zero, List.getD_cons_zero, wa]) <;> (try simp) <;> (try omega); done)))).le (leAll_refl _) (Le_z _ _ _ _) rfl⟩
theorem gz4 (b x0 x1 : UInt8) (d : List UInt8) (a c z n : Int) (hb : ACalls Tryd.prog noG 60 [.lit (.int .u8 (b.toNat : Int))] [] (bsAV a (-4) c z) []) (ha : 0 < a) (ha' : a < 256) (h : a ≤ (b :: x0 :: x1 :: d).length) (hn : ((x1.toNat + x0.toNat * 2 ^ 8 : Nat) : Int) = n) (hn' : n < 65536) : GZ u0 (b :: x0 :: x1 :: d) (a) (2 * n) := by
  have g := (g59 b.toNat a (-4) c z ⟨hb, trivial⟩).anyG (gS u0)
  have wa : IntKind.i64.wrap a = a := wrap64 (by omega) (by omega)
  have na : (a == (0 : Int)) = false := by simp; omega
  have h0 : 0 ≤ n := by omega
  have bb := be2C (gS u0) x0 x1 d
  rw [hn] at bb
  have nl : decide ((((b :: x0 :: x1 :: d).length : Nat) : Int) < IntKind.i64.wrap a) = false := by rw [wa]; simpa using h
  have := gs4 u0 b (x0 :: x1 :: d) a c z n (by simp only [AllP, leAll]; repeat' (first | with_reducible apply And.intro | assumption | exact trivial | exact Le.refl _ | ((try simp only [Int.toNat_natCast, List.length_cons, List.take_length, List.drop_succ_cons, List.drop_zero, List.getD_cons_zero, wa]) <;> (try simp) <;> (try omega); done)))
  simp only [wu a (by omega) (by omega), wu n h0 (by omega)] at this
  first
    | exact this
    | (rw [wu _ (by omega) (by omega)] at this; exact this)

theorem gz5s (b : UInt8) (d : List UInt8) (a c z : Int) (hb : ACalls Tryd.prog noG 60 [.lit (.int .u8 (b.toNat : Int))] [] (bsAV a (-5) c z) []) (ha : 0 < a) (ha' : a < 256) (h : (b :: d).length < a) : GE u0 (b :: d) := by
  have g := (g59 b.toNat a (-5) c z ⟨hb, trivial⟩).anyG (gS u0)
  have wa : IntKind.i64.wrap a = a := wrap64 (by omega) (by omega)
  have na : (a == (0 : Int)) = false := by simp; omega
  have nl : decide ((((b :: d).length : Nat) : Int) < IntKind.i64.wrap a) = true := by rw [wa]; simpa using h
  exact ⟨_, (gs5s u0 b d a c z (by simp only [AllP, leAll]; repeat' (first | with_reducible apply And.intro | assumption | exact trivial | exact Le.refl _ | ((try simp only [Int.toNat_natCast, List.length_cons, List.take_length, List.drop_succ_cons, List.drop_zero, List.getD_cons_zero, wa]) <;> (try simp) <;> (try omega); done)))).le (leAll_refl _) (Le_z _ _ _ _) rfl⟩
theorem gz5 (b x0 x1 x2 x3 : UInt8) (d : List UInt8) (a c z n : Int) (hb : ACalls Tryd.prog noG 60 [.lit (.int .u8 (b.toNat : Int))] [] (bsAV a (-5) c z) []) (ha : 0 < a) (ha' : a < 256) (h : a ≤ (b :: x0 :: x1 :: x2 :: x3 :: d).length) (hn : ((x3.toNat + x2.toNat * 2 ^ 8 + x1.toNat * 2 ^ 16 + x0.toNat * 2 ^ 24 : Nat) : Int) = n) (hn' : n < 4294967296) : GZ u0 (b :: x0 :: x1 :: x2 :: x3 :: d) (a) (2 * n) := by
  have g := (g59 b.toNat a (-5) c z ⟨hb, trivial⟩).anyG (gS u0)
  have wa : IntKind.i64.wrap a = a := wrap64 (by omega) (by omega)
  have na : (a == (0 : Int)) = false := by simp; omega
  have h0 : 0 ≤ n := by omega
  have bb := be4C (gS u0) x0 x1 x2 x3 d
  rw [hn] at bb
  have nl : decide ((((b :: x0 :: x1 :: x2 :: x3 :: d).length : Nat) : Int) < IntKind.i64.wrap a) = false := by rw [wa]; simpa using h
  have := gs5 u0 b (x0 :: x1 :: x2 :: x3 :: d) a c z n (by simp only [AllP, leAll]; repeat' (first | with_reducible apply And.intro | assumption | exact trivial | exact Le.refl _ | ((try simp only [Int.toNat_natCast, List.length_cons, List.take_length, List.drop_succ_cons, List.drop_zero, List.getD_cons_zero, wa]) <;> (try simp) <;> (try omega); done)))
  simp only [wu a (by omega) (by omega), wu n h0 (by omega)] at this
  first
    | exact this
    | (rw [wu _ (by omega) (by omega)] at this; exact this)

theorem gz6s (b : UInt8) (d : List UInt8) (a c z : Int) (hb : ACalls Tryd.prog noG 60 [.lit (.int .u8 (b.toNat : Int))] [] (bsAV a (-6) c z) []) (ha : 0 < a) (ha' : a < 256) (h : (b :: d).length < a) : GE u0 (b :: d) := by
  have g := (g59 b.toNat a (-6) c z ⟨hb, trivial⟩).anyG (gS u0)
  have wa : IntKind.i64.wrap a = a := wrap64 (by omega) (by omega)
  have na : (a == (0 : Int)) = false := by simp; omega
  have nl : decide ((((b :: d).length : Nat) : Int) < IntKind.i64.wrap a) = true := by rw [wa]; simpa using h
  exact ⟨_, (gs6s u0 b d a c z (by simp only [AllP, leAll]; repeat' (first | with_reducible apply And.intro | assumption | exact trivial | exact Le.refl _ | ((try simp only [Int.toNat_natCast, List.length_cons, List.take_length, List.drop_succ_cons, List.drop_zero, List.getD_cons_zero, wa]) <;> (try simp) <;> (try omega); done)))).le (leAll_refl _) (Le_z _ _ _ _) rfl⟩
theorem gz6 (b x0 x1 : UInt8) (d : List UInt8) (a c z n : Int) (hb : ACalls Tryd.prog noG 60 [.lit (.int .u8 (b.toNat : Int))] [] (bsAV a (-6) c z) []) (ha : 0 < a) (ha' : a < 256) (h : a ≤ (b :: x0 :: x1 :: d).length) (hn : ((x1.toNat + x0.toNat * 2 ^ 8 : Nat) : Int) = n) (hn' : n < 65536) : GZ u0 (b :: x0 :: x1 :: d) (a) (n) := by
  have g := (g59 b.toNat a (-6) c z ⟨hb, trivial⟩).anyG (gS u0)
  have wa : IntKind.i64.wrap a = a := wrap64 (by omega) (by omega)
  have na : (a == (0 : Int)) = false := by simp; omega
  have h0 : 0 ≤ n := by omega
  have bb := be2C (gS u0) x0 x1 d
  rw [hn] at bb
  have nl : decide ((((b :: x0 :: x1 :: d).length : Nat) : Int) < IntKind.i64.wrap a) = false := by rw [wa]; simpa using h
  have := gs6 u0 b (x0 :: x1 :: d) a c z n (by simp only [AllP, leAll]; repeat' (first | with_reducible apply And.intro | assumption | exact trivial | exact Le.refl _ | ((try simp only [Int.toNat_natCast, List.length_cons, List.take_length, List.drop_succ_cons, List.drop_zero, List.getD_cons_zero, wa]) <;> (try simp) <;> (try omega); done)))
  simp only [wu a (by omega) (by omega), wu n h0 (by omega)] at this
  first
    | exact this
    | (rw [wu _ (by omega) (by omega)] at this; exact this)

theorem gz7s (b : UInt8) (d : List UInt8) (a c z : Int) (hb : ACalls Tryd.prog noG 60 [.lit (.int .u8 (b.toNat : Int))] [] (bsAV a (-7) c z) []) (ha : 0 < a) (ha' : a < 256) (h : (b :: d).length < a) : GE u0 (b :: d) := by
  have g := (g59 b.toNat a (-7) c z ⟨hb, trivial⟩).anyG (gS u0)
  have wa : IntKind.i64.wrap a = a := wrap64 (by omega) (by omega)
  have na : (a == (0 : Int)) = false := by simp; omega
  have nl : decide ((((b :: d).length : Nat) : Int) < IntKind.i64.wrap a) = true := by rw [wa]; simpa using h
  exact ⟨_, (gs7s u0 b d a c z (by simp only [AllP, leAll]; repeat' (first | with_reducible apply And.intro | assumption | exact trivial | exact Le.refl _ | ((try simp only [Int.toNat_natCast, List.length_cons, List.take_length, List.drop_succ_cons, List.drop_zero, List.getD_cons_zero, wa]) <;> (try simp) <;> (try omega); done)))).le (leAll_refl _) (Le_z _ _ _ _) rfl⟩
theorem gz7 (b x0 x1 x2 x3 : UInt8) (d : List UInt8) (a c z n : Int) (hb : ACalls Tryd.prog noG 60 [.lit (.int .u8 (b.toNat : Int))] [] (bsAV a (-7) c z) []) (ha : 0 < a) (ha' : a < 256) (h : a ≤ (b :: x0 :: x1 :: x2 :: x3 :: d).length) (hn : ((x3.toNat + x2.toNat * 2 ^ 8 + x1.toNat * 2 ^ 16 + x0.toNat * 2 ^ 24 : Nat) : Int) = n) (hn' : n < 4294967296) : GZ u0 (b :: x0 :: x1 :: x2 :: x3 :: d) (a) (n) := by
  have g := (g59 b.toNat a (-7) c z ⟨hb, trivial⟩).anyG (gS u0)
  have wa : IntKind.i64.wrap a = a := wrap64 (by omega) (by omega)
  have na : (a == (0 : Int)) = false := by simp; omega
  have h0 : 0 ≤ n := by omega
  have bb := be4C (gS u0) x0 x1 x2 x3 d
  rw [hn] at bb
  have nl : decide ((((b :: x0 :: x1 :: x2 :: x3 :: d).length : Nat) : Int) < IntKind.i64.wrap a) = false := by rw [wa]; simpa using h
  have := gs7 u0 b (x0 :: x1 :: x2 :: x3 :: d) a c z n (by simp only [AllP, leAll]; repeat' (first | with_reducible apply And.intro | assumption | exact trivial | exact Le.refl _ | ((try simp only [Int.toNat_natCast, List.length_cons, List.take_length, List.drop_succ_cons, List.drop_zero, List.getD_cons_zero, wa]) <;> (try simp) <;> (try omega); done)))
  simp only [wu a (by omega) (by omega), wu n h0 (by omega)] at this
  first
    | exact this
    | (rw [wu _ (by omega) (by omega)] at this; exact this)
end
end Go.Ax
