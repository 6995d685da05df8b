/-
  Texts of MessagePack, read.
-/
import Derived.Test.YtdfefemnlimeeaaDoorGtP
import Derived.Test.YtdfefemnlimeeaaDoorGtS
import Derived.Test.YtdfefemnlimeeaaDoorGtT
set_option linter.unusedVariables false
set_option linter.unusedSimpArgs false
set_option maxRecDepth 100000
namespace Go.Ax
open Go.Proofs

/-! ### Bits of a first byte -/
theorem t48 : ∀ n : Fin 256, (IntKind.u8.wrap ((BitVec.ofInt IntKind.u8.bits (n.val : Int) &&& BitVec.ofInt IntKind.u8.bits 224).toNat : Int) == (160 : Int)) = decide (160 ≤ n.val ∧ n.val < 192) := by decide +kernel
theorem t49 : ∀ n : Fin 32, IntKind.u8.wrap ((BitVec.ofInt IntKind.u8.bits (160 + n.val : Int) &&& BitVec.ofInt IntKind.u8.bits 31).toNat : Int) = n.val := by decide +kernel

theorem is48C (G : Env) (b : UInt8) : ACalls Tryd.prog G 48 [.lit (.int .u8 (b.toNat : Int))] [] (.lit (.bool (decide (160 ≤ b.toNat ∧ b.toNat < 192)))) [] :=
  ((is48 b.toNat trivial).cast rfl rfl (by rw [← t48 ⟨b.toNat, b.toNat_lt⟩]) rfl).anyG G
theorem is48no (G : Env) (b : UInt8) (h : b.toNat < 160 ∨ 192 ≤ b.toNat) : ACalls Tryd.prog G 48 [.lit (.int .u8 (b.toNat : Int))] [] (.lit (.bool false)) [] := by
  have := is48C G b
  rw [decide_eq_false (by omega)] at this
  exact this
theorem is48yes (G : Env) (b : UInt8) (h : 160 ≤ b.toNat ∧ b.toNat < 192) : ACalls Tryd.prog G 48 [.lit (.int .u8 (b.toNat : Int))] [] (.lit (.bool true)) [] := by
  have := is48C G b
  rw [decide_eq_true h] at this
  exact this
theorem rf49C (G : Env) (b : UInt8) (n : Nat) (hn : n < 32) (h : b.toNat = 160 + n) : ACalls Tryd.prog G 49 [.lit (.int .u8 (b.toNat : Int))] [] (.lit (.int .u8 n)) [] :=
  ((rf49 b.toNat trivial).cast rfl rfl (by rw [h, ← t49 ⟨n, hn⟩]; rfl) rfl).anyG G

theorem orNat (a b s : Nat) (h : a < 2 ^ s) : a ||| (b * 2 ^ s) = a + b * 2 ^ s := by
  rw [Nat.or_comm, ← Nat.shiftLeft_eq, ← Nat.shiftLeft_add_eq_or_of_lt h]
  omega

theorem orI (k : IntKind) (B : Nat) (hB : k.bits = B) (hw : ∀ n : Int, 0 ≤ n → n < 2 ^ B → k.wrap n = n) (a b s : Nat) (h : a < 2 ^ s) (hb : a + b * 2 ^ s < 2 ^ B) :
    k.wrap ((BitVec.ofInt k.bits (a : Int) ||| BitVec.ofInt k.bits (((b * 2 ^ s : Nat)) : Int)).toNat : Int) = ((a + b * 2 ^ s : Nat) : Int) := by
  rw [BitVec.toNat_or, BitVec.toNat_ofInt, BitVec.toNat_ofInt, hB]
  have e1 : ((a : Int) % ((2 ^ B : Nat) : Int)).toNat = a := by
    rw [← Int.natCast_emod, Int.toNat_natCast, Nat.mod_eq_of_lt (by omega)]
  have e2 : (((b * 2 ^ s : Nat) : Int) % ((2 ^ B : Nat) : Int)).toNat = b * 2 ^ s := by
    rw [← Int.natCast_emod, Int.toNat_natCast, Nat.mod_eq_of_lt (by omega)]
  rw [e1, e2, orNat a b s h]
  exact hw _ (by omega) (by have : ((2 : Int) ^ B) = ((2 ^ B : Nat) : Int) := by simp
                            rw [this]; omega)

theorem w16 (n : Int) (h0 : 0 ≤ n) (h : n < 2 ^ 16) : IntKind.u16.wrap n = n := by rw [wrapU16]; omega
theorem w32 (n : Int) (h0 : 0 ≤ n) (h : n < 2 ^ 32) : IntKind.u32.wrap n = n := by rw [wrapU32]; omega

theorem be2C (G : Env) (x0 x1 : UInt8) (d : List UInt8) : ACalls Tryd.prog G 50 [.agg [], .bts (x0 :: x1 :: d)] [] (.lit (.int .u16 ((x1.toNat + x0.toNat * 2 ^ 8 : Nat) : Int))) [] := by
  have h0 := x0.toNat_lt
  have h1 := x1.toNat_lt
  have q0 : IntKind.u16.wrap (x0.toNat : Int) = x0.toNat := w16 _ (by omega) (by omega)
  have q1 : IntKind.u16.wrap (x1.toNat : Int) = x1.toNat := w16 _ (by omega) (by omega)
  have q2 : IntKind.u16.wrap ((x0.toNat : Int) * (2 : Int) ^ Min.min (Int.toNat (8 : Int)) IntKind.u16.bits) = ((x0.toNat * 2 ^ 8 : Nat) : Int) := by
    have : (2 : Int) ^ Min.min (Int.toNat (8 : Int)) IntKind.u16.bits = 256 := by decide
    rw [this, w16 _ (by omega) (by omega)]
    omega
  have e := orI .u16 16 rfl w16 x1.toNat x0.toNat 8 (by omega) (by omega)
  refine ((be2 x0 x1 d ⟨by simp; omega, by simp; omega, by simp; omega, trivial⟩).cast rfl rfl ?_ rfl).anyG G
  show AV.lit (.int .u16 (IntKind.u16.wrap (((BitVec.ofInt IntKind.u16.bits (IntKind.u16.wrap (x1.toNat : Int))) ||| (BitVec.ofInt IntKind.u16.bits (IntKind.u16.wrap (IntKind.u16.wrap (x0.toNat : Int) * (2 : Int) ^ Min.min (Int.toNat (8 : Int)) IntKind.u16.bits)))).toNat : Int))) = _
  rw [q0, q1, q2, e]

theorem be4C (G : Env) (x0 x1 x2 x3 : UInt8) (d : List UInt8) : ACalls Tryd.prog G 51 [.agg [], .bts (x0 :: x1 :: x2 :: x3 :: d)] [] (.lit (.int .u32 ((x3.toNat + x2.toNat * 2 ^ 8 + x1.toNat * 2 ^ 16 + x0.toNat * 2 ^ 24 : Nat) : Int))) [] := by
  have h0 := x0.toNat_lt
  have h1 := x1.toNat_lt
  have h2 := x2.toNat_lt
  have h3 := x3.toNat_lt
  have q : ∀ x : UInt8, IntKind.u32.wrap (x.toNat : Int) = x.toNat := fun x => by have := x.toNat_lt; exact w32 _ (by omega) (by omega)
  have m8 : (2 : Int) ^ Min.min (Int.toNat (8 : Int)) IntKind.u32.bits = 256 := by decide
  have m16 : (2 : Int) ^ Min.min (Int.toNat (16 : Int)) IntKind.u32.bits = 65536 := by decide
  have m24 : (2 : Int) ^ Min.min (Int.toNat (24 : Int)) IntKind.u32.bits = 16777216 := by decide
  have p8 : IntKind.u32.wrap ((x2.toNat : Int) * 256) = ((x2.toNat * 2 ^ 8 : Nat) : Int) := by rw [w32 _ (by omega) (by omega)]; omega
  have p16 : IntKind.u32.wrap ((x1.toNat : Int) * 65536) = ((x1.toNat * 2 ^ 16 : Nat) : Int) := by rw [w32 _ (by omega) (by omega)]; omega
  have p24 : IntKind.u32.wrap ((x0.toNat : Int) * 16777216) = ((x0.toNat * 2 ^ 24 : Nat) : Int) := by rw [w32 _ (by omega) (by omega)]; omega
  have e1 := orI .u32 32 rfl w32 x3.toNat x2.toNat 8 (by omega) (by omega)
  have e2 := orI .u32 32 rfl w32 (x3.toNat + x2.toNat * 2 ^ 8) x1.toNat 16 (by omega) (by omega)
  have e3 := orI .u32 32 rfl w32 (x3.toNat + x2.toNat * 2 ^ 8 + x1.toNat * 2 ^ 16) x0.toNat 24 (by omega) (by omega)
  refine ((be4 x0 x1 x2 x3 d ⟨by simp; omega, by simp; omega, by simp; omega, by simp; omega, by simp; omega, trivial⟩).cast rfl rfl ?_ rfl).anyG G
  show AV.lit (.int .u32 (IntKind.u32.wrap (((BitVec.ofInt IntKind.u32.bits (IntKind.u32.wrap (((BitVec.ofInt IntKind.u32.bits (IntKind.u32.wrap (((BitVec.ofInt IntKind.u32.bits (IntKind.u32.wrap (x3.toNat : Int))) ||| (BitVec.ofInt IntKind.u32.bits (IntKind.u32.wrap (IntKind.u32.wrap (x2.toNat : Int) * (2 : Int) ^ Min.min (Int.toNat (8 : Int)) IntKind.u32.bits)))).toNat : Int))) ||| (BitVec.ofInt IntKind.u32.bits (IntKind.u32.wrap (IntKind.u32.wrap (x1.toNat : Int) * (2 : Int) ^ Min.min (Int.toNat (16 : Int)) IntKind.u32.bits)))).toNat : Int))) ||| (BitVec.ofInt IntKind.u32.bits (IntKind.u32.wrap (IntKind.u32.wrap (x0.toNat : Int) * (2 : Int) ^ Min.min (Int.toNat (24 : Int)) IntKind.u32.bits)))).toNat : Int))) = _
  rw [q, q, q, q, m8, m16, m24, p8, p16, p24, e1, e2, e3]

/-! ### A text without a copy -/
theorem Le_e2 (t : Nat) (v : AV) : Le (.tup [.lit (.slice none 0 0), .lit (.slice none 0 0), .ifc t v]) (.tup [.bts [], .bts [], errAV t]) :=
  Le_tup ⟨Le_nil, Le_nil, Le_ifc _ _, trivial⟩

section
variable (u0 : Nat)

theorem strNone : ACalls Tryd.prog (gS u0) 39 [.bts []] [] (.tup [.bts [], .bts [], errAV u0]) [] := (rs0 u0 trivial).le (leAll_refl _) (Le_e2 _ _) rfl

theorem strBad (b : UInt8) (d : List UInt8) (h1 : b.toNat < 160 ∨ 192 ≤ b.toNat) (h2 : b.toNat ≠ 217) (h3 : b.toNat ≠ 218) (h4 : b.toNat ≠ 219) : ∃ t, ACalls Tryd.prog (gS u0) 39 [.bts (b :: d)] [] (.tup [.bts [], .bts [], errAV t]) [] := by
  obtain ⟨x, y, c, z, hb⟩ := bspecC b.toNat b.toNat_lt
  have g := (g44 b.toNat x y c z ⟨g59 b.toNat x y c z ⟨hb, trivial⟩, trivial⟩).anyG (gS u0)
  have i := is48no (gS u0) b h1
  have n2 : ((b.toNat : Int) == (217 : Int)) = false := by simp; omega
  have n3 : ((b.toNat : Int) == (218 : Int)) = false := by simp; omega
  have n4 : ((b.toNat : Int) == (219 : Int)) = false := by simp; omega
  exact ⟨81, (rsX u0 b d c ⟨g, leAll_refl _, n4, n3, n2, i, leAll_refl _, by simp only [List.length_cons]; omega, by simp only [List.length_cons]; omega, trivial⟩).le (leAll_refl _) (Le_e2 _ _) rfl⟩

theorem strFix (b : UInt8) (n : Nat) (hn : n < 32) (hb : b.toNat = 160 + n) (d : List UInt8) :
    (n ≤ d.length → ACalls Tryd.prog (gS u0) 39 [.bts (b :: d)] [] (.tup [.bts (d.take n), .bts (d.drop n), .lit .nilIface]) []) ∧
    (d.length < n → ACalls Tryd.prog (gS u0) 39 [.bts (b :: d)] [] (.tup [.bts [], .bts [], errAV u0]) []) := by
  have i := is48yes (gS u0) b (by omega)
  have r := rf49C (gS u0) b n hn hb
  have w : IntKind.i64.wrap (n : Int) = n := wrap64 (by omega) (by omega)
  refine ⟨fun h => ?_, fun h => ?_⟩
  · exact (rsF u0 b d n (by simp only [AllP, leAll]; repeat' (first | with_reducible apply And.intro | assumption | exact trivial | exact Le.refl _ | ((try simp only [Int.toNat_natCast, List.length_cons, List.drop_succ_cons, List.drop_zero]) <;> (try simp only [w, List.take_of_length_le]) <;> (try simp) <;> (try omega); done)))).cast rfl rfl (by simp only [Int.toNat_natCast, List.take_length, List.drop_succ_cons, List.drop_zero, List.getD_cons_zero, w]; try simp [Nat.add_comm, List.drop_drop]) rfl
  · exact (rsFs u0 b d n (by simp only [AllP, leAll]; repeat' (first | with_reducible apply And.intro | assumption | exact trivial | exact Le.refl _ | ((try simp only [Int.toNat_natCast, List.length_cons, List.drop_succ_cons, List.drop_zero]) <;> (try simp only [w, List.take_of_length_le]) <;> (try simp) <;> (try omega); done)))).le (leAll_refl _) (Le_e2 _ _) rfl

theorem str8 (s : UInt8) (d : List UInt8) :
    (s.toNat ≤ d.length → ACalls Tryd.prog (gS u0) 39 [.bts (217 :: s :: d)] [] (.tup [.bts (d.take s.toNat), .bts (d.drop s.toNat), .lit .nilIface]) []) ∧
    (d.length < s.toNat → ACalls Tryd.prog (gS u0) 39 [.bts (217 :: s :: d)] [] (.tup [.bts [], .bts [], errAV u0]) []) := by
  have i : ACalls Tryd.prog (gS u0) 48 [.lit (.int .u8 217)] [] (.lit (.bool false)) [] := is48no (gS u0) 217 (by decide)
  have hs := s.toNat_lt
  have w : IntKind.i64.wrap (s.toNat : Int) = s.toNat := wrap64 (by omega) (by omega)
  refine ⟨fun h => ?_, fun h => ?_⟩
  · exact (rs1 u0 s d (by simp only [AllP, leAll]; repeat' (first | with_reducible apply And.intro | assumption | exact trivial | exact Le.refl _ | ((try simp only [Int.toNat_natCast, List.length_cons, List.drop_succ_cons, List.drop_zero]) <;> (try simp only [w, List.take_of_length_le]) <;> (try simp) <;> (try omega); done)))).cast rfl rfl (by simp only [Int.toNat_natCast, List.take_length, List.drop_succ_cons, List.drop_zero, List.getD_cons_zero, w]; try simp [Nat.add_comm, List.drop_drop]) rfl
  · exact (rs1s u0 s d (by simp only [AllP, leAll]; repeat' (first | with_reducible apply And.intro | assumption | exact trivial | exact Le.refl _ | ((try simp only [Int.toNat_natCast, List.length_cons, List.drop_succ_cons, List.drop_zero]) <;> (try simp only [w, List.take_of_length_le]) <;> (try simp) <;> (try omega); done)))).le (leAll_refl _) (Le_e2 _ _) rfl

theorem str8e : ACalls Tryd.prog (gS u0) 39 [.bts [217]] [] (.tup [.bts [], .bts [], errAV u0]) [] :=
  (rs1e u0 ⟨is48no (gS u0) 217 (by decide), trivial⟩).le (leAll_refl _) (Le_e2 _ _) rfl

theorem str16 (x y : UInt8) (n : Nat) (hn : n = y.toNat + x.toNat * 2 ^ 8) (d : List UInt8) :
    (n ≤ d.length → ACalls Tryd.prog (gS u0) 39 [.bts (218 :: x :: y :: d)] [] (.tup [.bts (d.take n), .bts (d.drop n), .lit .nilIface]) []) ∧
    (d.length < n → ACalls Tryd.prog (gS u0) 39 [.bts (218 :: x :: y :: d)] [] (.tup [.bts [], .bts [], errAV u0]) []) := by
  have i : ACalls Tryd.prog (gS u0) 48 [.lit (.int .u8 218)] [] (.lit (.bool false)) [] := is48no (gS u0) 218 (by decide)
  have hx := x.toNat_lt
  have hy := y.toNat_lt
  have b := be2C (gS u0) x y d
  rw [← hn] at b
  have w : IntKind.i64.wrap (n : Int) = n := wrap64 (by omega) (by omega)
  refine ⟨fun h => ?_, fun h => ?_⟩
  · exact (rs2 u0 (x :: y :: d) n (by simp only [AllP, leAll]; repeat' (first | with_reducible apply And.intro | assumption | exact trivial | exact Le.refl _ | ((try simp only [Int.toNat_natCast, List.length_cons, List.drop_succ_cons, List.drop_zero]) <;> (try simp only [w, List.take_of_length_le]) <;> (try simp) <;> (try omega); done)))).cast rfl rfl (by simp only [Int.toNat_natCast, List.take_length, List.drop_succ_cons, List.drop_zero, List.getD_cons_zero, w]; try simp [Nat.add_comm, List.drop_drop]) rfl
  · exact (rs2s u0 (x :: y :: d) n (by simp only [AllP, leAll]; repeat' (first | with_reducible apply And.intro | assumption | exact trivial | exact Le.refl _ | ((try simp only [Int.toNat_natCast, List.length_cons, List.drop_succ_cons, List.drop_zero]) <;> (try simp only [w, List.take_of_length_le]) <;> (try simp) <;> (try omega); done)))).le (leAll_refl _) (Le_e2 _ _) rfl

theorem str16e (d : List UInt8) (h : d.length < 2) : ACalls Tryd.prog (gS u0) 39 [.bts (218 :: d)] [] (.tup [.bts [], .bts [], errAV u0]) [] := by
  have i : ACalls Tryd.prog (gS u0) 48 [.lit (.int .u8 218)] [] (.lit (.bool false)) [] := is48no (gS u0) 218 (by decide)
  exact (rs2e u0 d 0 (by simp only [AllP, leAll]; repeat' (first | with_reducible apply And.intro | assumption | exact trivial | exact Le.refl _ | ((try simp only [Int.toNat_natCast, List.length_cons, List.drop_succ_cons, List.drop_zero]) <;> (try simp) <;> (try omega); done)))).le (leAll_refl _) (Le_e2 _ _) rfl

theorem str32 (x y z v : UInt8) (n : Nat) (hn : n = v.toNat + z.toNat * 2 ^ 8 + y.toNat * 2 ^ 16 + x.toNat * 2 ^ 24) (d : List UInt8) :
    (n ≤ d.length → ACalls Tryd.prog (gS u0) 39 [.bts (219 :: x :: y :: z :: v :: d)] [] (.tup [.bts (d.take n), .bts (d.drop n), .lit .nilIface]) []) ∧
    (d.length < n → ACalls Tryd.prog (gS u0) 39 [.bts (219 :: x :: y :: z :: v :: d)] [] (.tup [.bts [], .bts [], errAV u0]) []) := by
  have i : ACalls Tryd.prog (gS u0) 48 [.lit (.int .u8 219)] [] (.lit (.bool false)) [] := is48no (gS u0) 219 (by decide)
  have hx := x.toNat_lt
  have hy := y.toNat_lt
  have hz := z.toNat_lt
  have hv := v.toNat_lt
  have b := be4C (gS u0) x y z v d
  rw [← hn] at b
  have w : IntKind.i64.wrap (n : Int) = n := wrap64 (by omega) (by omega)
  refine ⟨fun h => ?_, fun h => ?_⟩
  · exact (rs4 u0 (x :: y :: z :: v :: d) n (by simp only [AllP, leAll]; repeat' (first | with_reducible apply And.intro | assumption | exact trivial | exact Le.refl _ | ((try simp only [Int.toNat_natCast, List.length_cons, List.drop_succ_cons, List.drop_zero]) <;> (try simp only [w, List.take_of_length_le]) <;> (try simp) <;> (try omega); done)))).cast rfl rfl (by simp only [Int.toNat_natCast, List.take_length, List.drop_succ_cons, List.drop_zero, List.getD_cons_zero, w]; try simp [Nat.add_comm, List.drop_drop]) rfl
  · exact (rs4s u0 (x :: y :: z :: v :: d) n (by simp only [AllP, leAll]; repeat' (first | with_reducible apply And.intro | assumption | exact trivial | exact Le.refl _ | ((try simp only [Int.toNat_natCast, List.length_cons, List.drop_succ_cons, List.drop_zero]) <;> (try simp only [w, List.take_of_length_le]) <;> (try simp) <;> (try omega); done)))).le (leAll_refl _) (Le_e2 _ _) rfl

theorem str32e (d : List UInt8) (h : d.length < 4) : ACalls Tryd.prog (gS u0) 39 [.bts (219 :: d)] [] (.tup [.bts [], .bts [], errAV u0]) [] := by
  have i : ACalls Tryd.prog (gS u0) 48 [.lit (.int .u8 219)] [] (.lit (.bool false)) [] := is48no (gS u0) 219 (by decide)
  exact (rs4e u0 d 0 (by simp only [AllP, leAll]; repeat' (first | with_reducible apply And.intro | assumption | exact trivial | exact Le.refl _ | ((try simp only [Int.toNat_natCast, List.length_cons, List.drop_succ_cons, List.drop_zero]) <;> (try simp) <;> (try omega); done)))).le (leAll_refl _) (Le_e2 _ _) rfl

/-- What a head of a text and the text behind it are read as; what is cut off is refused. -/
theorem strForm (tt hd : List UInt8) (hl : tt.length ≤ 131072) (h : HeadOut tt.length 160 32 (f3 217 218 219) hd) :
    (∀ r, ACalls Tryd.prog (gS u0) 39 [.bts (hd ++ tt ++ r)] [] (.tup [.bts tt, .bts r, .lit .nilIface]) []) ∧
    (∀ m, m < (hd ++ tt).length → ACalls Tryd.prog (gS u0) 39 [.bts ((hd ++ tt).take m)] [] (.tup [.bts [], .bts [], errAV u0]) []) := by
  rcases h with ⟨-, h32, rfl⟩ | ⟨p, hp, rfl⟩
  · have hb := orB160 ⟨tt.length, by omega⟩
    simp only at hb
    refine ⟨fun r => ?_, fun m hm => ?_⟩
    · have := (strFix u0 (orB 160 tt.length) tt.length (by omega) hb (tt ++ r)).1 (by simp)
      simpa using this
    · cases m with
      | zero => exact strNone u0
      | succ k =>
        have := (strFix u0 (orB 160 tt.length) tt.length (by omega) hb (tt.take k)).2 (by simp at hm ⊢; omega)
        simpa using this
  · obtain ⟨hm, hf⟩ := List.mem_filter.1 hp
    simp [f3] at hm
    rcases hm with rfl | rfl | rfl
    · simp only [fitB, Bool.or_eq_true, decide_eq_true_eq] at hf
      have hlt : tt.length < 256 := by
        rcases hf with hf | hf
        · omega
        · have : ((tt.length : Int)) < 256 ^ 1 := hf
          omega
      have hh : headL 217 1 tt.length = [217, byteI tt.length] := by simp [headL, bigL]; decide
      have hs : (byteI (tt.length : Int)).toNat = tt.length := by rw [byteI_nat' _ (by omega) (by omega)]; omega
      rw [hh]
      refine ⟨fun r => ?_, fun m hm => ?_⟩
      · have := (str8 u0 (byteI tt.length) (tt ++ r)).1 (by rw [hs]; simp)
        rw [hs] at this
        simpa using this
      · match m with
        | 0 => exact strNone u0
        | 1 => exact str8e u0
        | k + 2 =>
          have := (str8 u0 (byteI tt.length) (tt.take k)).2 (by rw [hs]; simp at hm ⊢; omega)
          simpa using this
    · simp only [fitB, Bool.or_eq_true, decide_eq_true_eq] at hf
      have hlt : tt.length < 65536 := by
        rcases hf with hf | hf
        · omega
        · have : ((tt.length : Int)) < 256 ^ 2 := hf
          omega
      have hh : headL 218 2 tt.length = [218, byteI (tt.length / 256), byteI tt.length] := by simp [headL, bigL]; decide
      have hn : tt.length = (byteI (tt.length : Int)).toNat + (byteI ((tt.length : Int) / 256)).toNat * 2 ^ 8 := by rw [byteI_nat, byteI_nat]; omega
      rw [hh]
      refine ⟨fun r => ?_, fun m hm => ?_⟩
      · have := (str16 u0 (byteI (tt.length / 256)) (byteI tt.length) tt.length hn (tt ++ r)).1 (by simp)
        simpa using this
      · match m with
        | 0 => exact strNone u0
        | 1 => exact str16e u0 [] (by simp)
        | 2 => exact str16e u0 [_] (by simp)
        | k + 3 =>
          have := (str16 u0 (byteI (tt.length / 256)) (byteI tt.length) tt.length hn (tt.take k)).2 (by simp at hm ⊢; omega)
          simpa using this
    · have hh : headL 219 4 tt.length = [219, byteI (tt.length / 16777216), byteI (tt.length / 65536), byteI (tt.length / 256), byteI tt.length] := by simp [headL, bigL]; decide
      have hn : tt.length = (byteI (tt.length : Int)).toNat + (byteI ((tt.length : Int) / 256)).toNat * 2 ^ 8 + (byteI ((tt.length : Int) / 65536)).toNat * 2 ^ 16 + (byteI ((tt.length : Int) / 16777216)).toNat * 2 ^ 24 := by
        rw [byteI_nat, byteI_nat, byteI_nat, byteI_nat]; omega
      rw [hh]
      refine ⟨fun r => ?_, fun m hm => ?_⟩
      · have := (str32 u0 (byteI (tt.length / 16777216)) (byteI (tt.length / 65536)) (byteI (tt.length / 256)) (byteI tt.length) tt.length hn (tt ++ r)).1 (by simp)
        simpa using this
      · match m with
        | 0 => exact strNone u0
        | 1 => exact str32e u0 [] (by simp)
        | 2 => exact str32e u0 [_] (by simp)
        | 3 => exact str32e u0 [_, _] (by simp)
        | 4 => exact str32e u0 [_, _, _] (by simp)
        | k + 5 =>
          have := (str32 u0 (byteI (tt.length / 16777216)) (byteI (tt.length / 65536)) (byteI (tt.length / 256)) (byteI tt.length) tt.length hn (tt.take k)).2 (by simp at hm ⊢; omega)
          simpa using this
end
end Go.Ax
