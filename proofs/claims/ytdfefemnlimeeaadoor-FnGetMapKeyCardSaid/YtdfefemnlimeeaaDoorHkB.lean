/-
  Keys of MessagePack's maps, read: texts or byte strings; laws.FnGetMapKey.
-/
import Derived.Test.YtdfefemnlimeeaaDoorGtV
import Derived.Test.YtdfefemnlimeeaaDoorHkA
set_option linter.unusedVariables false
set_option linter.unusedSimpArgs false
set_option maxRecDepth 100000
namespace Go.Ax
open Go.Proofs

theorem bin8 (s : UInt8) (d : List UInt8) :
    (s.toNat ≤ d.length → ACalls Tryd.prog (gS 142) 58 [.bts (196 :: s :: d), .lit (.slice none 0 0), .lit (.bool true)] [] (.tup [.bts (d.take s.toNat), .bts (d.drop s.toNat), .lit .nilIface]) []) ∧
    (d.length < s.toNat → ACalls Tryd.prog (gS 142) 58 [.bts (196 :: s :: d), .lit (.slice none 0 0), .lit (.bool true)] [] (.tup [.bts [], .bts [], errAV 142]) []) := by
  have hs := s.toNat_lt
  have w : IntKind.i64.wrap (s.toNat : Int) = s.toNat := wrap64 (by omega) (by omega)
  refine ⟨fun h => ?_, fun h => ?_⟩
  · exact (rk1 s d (by simp only [AllP, leAll]; repeat' (first | with_reducible apply And.intro | assumption | exact trivial | exact Le.refl _ | ((try simp only [Int.toNat_natCast, List.length_cons, List.drop_succ_cons, List.drop_zero]) <;> (try simp only [w, List.take_of_length_le]) <;> (try simp) <;> (try omega); done)))).cast rfl rfl (by simp only [Int.toNat_natCast, List.take_length, List.drop_succ_cons, List.drop_zero, List.getD_cons_zero, w]; try simp [Nat.add_comm, List.drop_drop]) rfl
  · exact (rk1s s d (by simp only [AllP, leAll]; repeat' (first | with_reducible apply And.intro | assumption | exact trivial | exact Le.refl _ | ((try simp only [Int.toNat_natCast, List.length_cons, List.drop_succ_cons, List.drop_zero]) <;> (try simp only [w, List.take_of_length_le]) <;> (try simp) <;> (try omega); done)))).le (leAll_refl _) (Le_e2 _ _) rfl

theorem bin8e : ACalls Tryd.prog (gS 142) 58 [.bts [196], .lit (.slice none 0 0), .lit (.bool true)] [] (.tup [.bts [], .bts [], errAV 142]) [] :=
  (rk1e trivial).le (leAll_refl _) (Le_e2 _ _) rfl

theorem bin16 (x y : UInt8) (n : Nat) (hn : n = y.toNat + x.toNat * 2 ^ 8) (d : List UInt8) :
    (n ≤ d.length → ACalls Tryd.prog (gS 142) 58 [.bts (197 :: x :: y :: d), .lit (.slice none 0 0), .lit (.bool true)] [] (.tup [.bts (d.take n), .bts (d.drop n), .lit .nilIface]) []) ∧
    (d.length < n → ACalls Tryd.prog (gS 142) 58 [.bts (197 :: x :: y :: d), .lit (.slice none 0 0), .lit (.bool true)] [] (.tup [.bts [], .bts [], errAV 142]) []) := by
  have hx := x.toNat_lt
  have hy := y.toNat_lt
  have b := be2C (gS 142) x y d
  rw [← hn] at b
  have w : IntKind.i64.wrap (n : Int) = n := wrap64 (by omega) (by omega)
  refine ⟨fun h => ?_, fun h => ?_⟩
  · exact (rk2 (x :: y :: d) n (by simp only [AllP, leAll]; repeat' (first | with_reducible apply And.intro | assumption | exact trivial | exact Le.refl _ | ((try simp only [Int.toNat_natCast, List.length_cons, List.drop_succ_cons, List.drop_zero]) <;> (try simp only [w, List.take_of_length_le]) <;> (try simp) <;> (try omega); done)))).cast rfl rfl (by simp only [Int.toNat_natCast, List.take_length, List.drop_succ_cons, List.drop_zero, List.getD_cons_zero, w]; try simp [Nat.add_comm, List.drop_drop]) rfl
  · exact (rk2s (x :: y :: d) n (by simp only [AllP, leAll]; repeat' (first | with_reducible apply And.intro | assumption | exact trivial | exact Le.refl _ | ((try simp only [Int.toNat_natCast, List.length_cons, List.drop_succ_cons, List.drop_zero]) <;> (try simp only [w, List.take_of_length_le]) <;> (try simp) <;> (try omega); done)))).le (leAll_refl _) (Le_e2 _ _) rfl

theorem bin16e (d : List UInt8) (h : d.length < 2) : ACalls Tryd.prog (gS 142) 58 [.bts (197 :: d), .lit (.slice none 0 0), .lit (.bool true)] [] (.tup [.bts [], .bts [], errAV 142]) [] :=
  (rk2e d 0 (by simp only [AllP, leAll]; repeat' (first | with_reducible apply And.intro | assumption | exact trivial | exact Le.refl _ | ((try simp only [Int.toNat_natCast, List.length_cons, List.drop_succ_cons, List.drop_zero]) <;> (try simp) <;> (try omega); done)))).le (leAll_refl _) (Le_e2 _ _) rfl

theorem bin32 (x y z v : UInt8) (n : Nat) (hn : n = v.toNat + z.toNat * 2 ^ 8 + y.toNat * 2 ^ 16 + x.toNat * 2 ^ 24) (d : List UInt8) :
    (n ≤ d.length → ACalls Tryd.prog (gS 142) 58 [.bts (198 :: x :: y :: z :: v :: d), .lit (.slice none 0 0), .lit (.bool true)] [] (.tup [.bts (d.take n), .bts (d.drop n), .lit .nilIface]) []) ∧
    (d.length < n → ACalls Tryd.prog (gS 142) 58 [.bts (198 :: x :: y :: z :: v :: d), .lit (.slice none 0 0), .lit (.bool true)] [] (.tup [.bts [], .bts [], errAV 142]) []) := by
  have hx := x.toNat_lt
  have hy := y.toNat_lt
  have hz := z.toNat_lt
  have hv := v.toNat_lt
  have b := be4C (gS 142) x y z v d
  rw [← hn] at b
  have w : IntKind.i64.wrap (n : Int) = n := wrap64 (by omega) (by omega)
  refine ⟨fun h => ?_, fun h => ?_⟩
  · exact (rk4 (x :: y :: z :: v :: d) n (by simp only [AllP, leAll]; repeat' (first | with_reducible apply And.intro | assumption | exact trivial | exact Le.refl _ | ((try simp only [Int.toNat_natCast, List.length_cons, List.drop_succ_cons, List.drop_zero]) <;> (try simp only [w, List.take_of_length_le]) <;> (try simp) <;> (try omega); done)))).cast rfl rfl (by simp only [Int.toNat_natCast, List.take_length, List.drop_succ_cons, List.drop_zero, List.getD_cons_zero, w]; try simp [Nat.add_comm, List.drop_drop]) rfl
  · exact (rk4s (x :: y :: z :: v :: d) n (by simp only [AllP, leAll]; repeat' (first | with_reducible apply And.intro | assumption | exact trivial | exact Le.refl _ | ((try simp only [Int.toNat_natCast, List.length_cons, List.drop_succ_cons, List.drop_zero]) <;> (try simp only [w, List.take_of_length_le]) <;> (try simp) <;> (try omega); done)))).le (leAll_refl _) (Le_e2 _ _) rfl

theorem bin32e (d : List UInt8) (h : d.length < 4) : ACalls Tryd.prog (gS 142) 58 [.bts (198 :: d), .lit (.slice none 0 0), .lit (.bool true)] [] (.tup [.bts [], .bts [], errAV 142]) [] :=
  (rk4e d 0 (by simp only [AllP, leAll]; repeat' (first | with_reducible apply And.intro | assumption | exact trivial | exact Le.refl _ | ((try simp only [Int.toNat_natCast, List.length_cons, List.drop_succ_cons, List.drop_zero]) <;> (try simp) <;> (try omega); done)))).le (leAll_refl _) (Le_e2 _ _) rfl

/-- What a byte string's head and the bytes behind it are read as; what is cut off behind the first byte is refused. -/
theorem binForm (tt hd : List UInt8) (hl : tt.length ≤ 131072) (h : HeadOut tt.length (-1) 0 (f3 196 197 198) hd) : ∃ b hr, hd = b :: hr ∧ (b = 196 ∨ b = 197 ∨ b = 198) ∧
    (∀ r, ACalls Tryd.prog (gS 142) 58 [.bts (hd ++ tt ++ r), .lit (.slice none 0 0), .lit (.bool true)] [] (.tup [.bts tt, .bts r, .lit .nilIface]) []) ∧
    (∀ m, m + 1 < (hd ++ tt).length → ACalls Tryd.prog (gS 142) 58 [.bts ((hd ++ tt).take (m + 1)), .lit (.slice none 0 0), .lit (.bool true)] [] (.tup [.bts [], .bts [], errAV 142]) []) := by
  rcases h with ⟨h, -⟩ | ⟨p, hp, rfl⟩
  · exact absurd h (by decide)
  · obtain ⟨hm, hf⟩ := List.mem_filter.1 hp
    simp [f3] at hm
    rcases hm with rfl | rfl | rfl
    · simp only [fitB, Bool.or_eq_true, decide_eq_true_eq] at hf
      have hlt : tt.length < 256 := by
        rcases hf with hf | hf
        · omega
        · have : ((tt.length : Int)) < 256 ^ 1 := hf
          omega
      have hh : headL 196 1 tt.length = [196, byteI tt.length] := by simp [headL, bigL]; decide
      have hs : (byteI (tt.length : Int)).toNat = tt.length := by rw [byteI_nat' _ (by omega) (by omega)]; omega
      rw [hh]
      refine ⟨_, _, rfl, by simp, fun r => ?_, fun m hm => ?_⟩
      · have := (bin8 (byteI tt.length) (tt ++ r)).1 (by rw [hs]; simp)
        rw [hs] at this
        simpa using this
      · match m with
        | 0 => exact bin8e
        | k + 1 =>
          have := (bin8 (byteI tt.length) (tt.take k)).2 (by rw [hs]; simp at hm ⊢; omega)
          simpa using this
    · simp only [fitB, Bool.or_eq_true, decide_eq_true_eq] at hf
      have hlt : tt.length < 65536 := by
        rcases hf with hf | hf
        · omega
        · have : ((tt.length : Int)) < 256 ^ 2 := hf
          omega
      have hh : headL 197 2 tt.length = [197, byteI (tt.length / 256), byteI tt.length] := by simp [headL, bigL]; decide
      have hn : tt.length = (byteI (tt.length : Int)).toNat + (byteI ((tt.length : Int) / 256)).toNat * 2 ^ 8 := by rw [byteI_nat, byteI_nat]; omega
      rw [hh]
      refine ⟨_, _, rfl, by simp, fun r => ?_, fun m hm => ?_⟩
      · have := (bin16 (byteI (tt.length / 256)) (byteI tt.length) tt.length hn (tt ++ r)).1 (by simp)
        simpa using this
      · match m with
        | 0 => exact bin16e [] (by simp)
        | 1 => exact bin16e [_] (by simp)
        | k + 2 =>
          have := (bin16 (byteI (tt.length / 256)) (byteI tt.length) tt.length hn (tt.take k)).2 (by simp at hm ⊢; omega)
          simpa using this
    · have hh : headL 198 4 tt.length = [198, byteI (tt.length / 16777216), byteI (tt.length / 65536), byteI (tt.length / 256), byteI tt.length] := by simp [headL, bigL]; decide
      have hn : tt.length = (byteI (tt.length : Int)).toNat + (byteI ((tt.length : Int) / 256)).toNat * 2 ^ 8 + (byteI ((tt.length : Int) / 65536)).toNat * 2 ^ 16 + (byteI ((tt.length : Int) / 16777216)).toNat * 2 ^ 24 := by
        rw [byteI_nat, byteI_nat, byteI_nat, byteI_nat]; omega
      rw [hh]
      refine ⟨_, _, rfl, by simp, fun r => ?_, fun m hm => ?_⟩
      · have := (bin32 (byteI (tt.length / 16777216)) (byteI (tt.length / 65536)) (byteI (tt.length / 256)) (byteI tt.length) tt.length hn (tt ++ r)).1 (by simp)
        simpa using this
      · match m with
        | 0 => exact bin32e [] (by simp)
        | 1 => exact bin32e [_] (by simp)
        | 2 => exact bin32e [_, _] (by simp)
        | 3 => exact bin32e [_, _, _] (by simp)
        | k + 4 =>
          have := (bin32 (byteI (tt.length / 16777216)) (byteI (tt.length / 65536)) (byteI (tt.length / 256)) (byteI tt.length) tt.length hn (tt.take k)).2 (by simp at hm ⊢; omega)
          simpa using this

theorem bspecC2 (n : Nat) (h : n < 256) : ∃ a b c d, ACalls Tryd.prog noG 60 [.lit (.int .u8 (n : Int))] [] (bsAV a b c d) [] ∧ (c = 2 ↔ 196 ≤ n ∧ n ≤ 198) := by
  rcases (show n < 128 ∨ (128 ≤ n ∧ n < 144) ∨ (144 ≤ n ∧ n < 160) ∨ (160 ≤ n ∧ n < 192) ∨ 224 ≤ n ∨ n = 193 ∨ n = 192 ∨ n = 194 ∨ n = 195 ∨ n = 196 ∨ n = 197 ∨ n = 198 ∨ n = 199 ∨ n = 200 ∨ n = 201 ∨ n = 202 ∨ n = 203 ∨ n = 204 ∨ n = 205 ∨ n = 206 ∨ n = 207 ∨ n = 208 ∨ n = 209 ∨ n = 210 ∨ n = 211 ∨ n = 212 ∨ n = 213 ∨ n = 214 ∨ n = 215 ∨ n = 216 ∨ n = 217 ∨ n = 218 ∨ n = 219 ∨ n = 220 ∨ n = 221 ∨ n = 222 ∨ n = 223 by omega) with hr | hr | hr | hr | hr | rfl | rfl | rfl | rfl | rfl | rfl | rfl | rfl | rfl | rfl | rfl | rfl | rfl | rfl | rfl | rfl | rfl | rfl | rfl | rfl | rfl | rfl | rfl | rfl | rfl | rfl | rfl | rfl | rfl | rfl | rfl | rfl
  · exact ⟨_, _, _, _, cbA n 0 (by simp only [AllP]; repeat' (first | with_reducible apply And.intro | exact trivial | assumption | (simp; done) | (simp; omega))), by omega⟩
  · have c := rf61 n trivial
    exact ⟨_, _, _, _, cbC n _ (by simp only [AllP]; repeat' (first | with_reducible apply And.intro | exact trivial | assumption | (simp; done) | (simp; omega))), by omega⟩
  · have c := rf62 n trivial
    exact ⟨_, _, _, _, cbD n _ (by simp only [AllP]; repeat' (first | with_reducible apply And.intro | exact trivial | assumption | (simp; done) | (simp; omega))), by omega⟩
  · have c := rf49 n trivial
    exact ⟨_, _, _, _, cbB n _ (by simp only [AllP]; repeat' (first | with_reducible apply And.intro | exact trivial | assumption | (simp; done) | (simp; omega))), by omega⟩
  · have w16 : IntKind.u16.wrap (n : Int) = n := by rw [wrapU16]; omega
    exact ⟨_, _, _, _, cbE n 0 (by simp only [AllP]; repeat' (first | with_reducible apply And.intro | exact trivial | assumption | (simp; done) | (simp; omega) | (simp [w16]; omega))), by omega⟩
  · exact ⟨_, _, _, _, cbF trivial, by omega⟩
  · exact ⟨_, _, _, _, tabP192, by omega⟩
  · exact ⟨_, _, _, _, tabP194, by omega⟩
  · exact ⟨_, _, _, _, tabP195, by omega⟩
  · exact ⟨_, _, _, _, tabP196, by omega⟩
  · exact ⟨_, _, _, _, tabP197, by omega⟩
  · exact ⟨_, _, _, _, tabP198, by omega⟩
  · exact ⟨_, _, _, _, tabP199, by omega⟩
  · exact ⟨_, _, _, _, tabP200, by omega⟩
  · exact ⟨_, _, _, _, tabP201, by omega⟩
  · exact ⟨_, _, _, _, tabP202, by omega⟩
  · exact ⟨_, _, _, _, tabP203, by omega⟩
  · exact ⟨_, _, _, _, tabP204, by omega⟩
  · exact ⟨_, _, _, _, tabP205, by omega⟩
  · exact ⟨_, _, _, _, tabP206, by omega⟩
  · exact ⟨_, _, _, _, tabP207, by omega⟩
  · exact ⟨_, _, _, _, tabP208, by omega⟩
  · exact ⟨_, _, _, _, tabP209, by omega⟩
  · exact ⟨_, _, _, _, tabP210, by omega⟩
  · exact ⟨_, _, _, _, tabP211, by omega⟩
  · exact ⟨_, _, _, _, tabP212, by omega⟩
  · exact ⟨_, _, _, _, tabP213, by omega⟩
  · exact ⟨_, _, _, _, tabP214, by omega⟩
  · exact ⟨_, _, _, _, tabP215, by omega⟩
  · exact ⟨_, _, _, _, tabP216, by omega⟩
  · exact ⟨_, _, _, _, tabP217, by omega⟩
  · exact ⟨_, _, _, _, tabP218, by omega⟩
  · exact ⟨_, _, _, _, tabP219, by omega⟩
  · exact ⟨_, _, _, _, tabP220, by omega⟩
  · exact ⟨_, _, _, _, tabP221, by omega⟩
  · exact ⟨_, _, _, _, tabP222, by omega⟩
  · exact ⟨_, _, _, _, tabP223, by omega⟩

/-! ### The key -/
/-- A byte that begins no text is refused with its kind: kind 2 for byte strings alone. -/
theorem strType (b : UInt8) (d : List UInt8) (h1 : b.toNat < 160 ∨ 192 ≤ b.toNat) (h2 : b.toNat ≠ 217) (h3 : b.toNat ≠ 218) (h4 : b.toNat ≠ 219) :
    ∃ c : Int, (c = 2 ↔ 196 ≤ b.toNat ∧ b.toNat ≤ 198) ∧ ACalls Tryd.prog (gS 142) 39 [.bts (b :: d)] [] (.tup [.lit (.slice none 0 0), .lit (.slice none 0 0), .ifc 81 (.agg [.lit (.int .u8 1), .lit (.int .u8 c), .lit (.string (ByteArray.mk #[]))])]) [] := by
  obtain ⟨x, y, c, z, hb, hc⟩ := bspecC2 b.toNat b.toNat_lt
  have g := (g44 b.toNat x y c z ⟨g59 b.toNat x y c z ⟨hb, trivial⟩, trivial⟩).anyG (gS 142)
  have i := is48no (gS 142) b h1
  have n2 : ((b.toNat : Int) == (217 : Int)) = false := by simp; omega
  have n3 : ((b.toNat : Int) == (218 : Int)) = false := by simp; omega
  have n4 : ((b.toNat : Int) == (219 : Int)) = false := by simp; omega
  exact ⟨c, hc, rsX 142 b d c ⟨g, leAll_refl _, n4, n3, n2, i, leAll_refl _, by simp only [List.length_cons]; omega, by simp only [List.length_cons]; omega, trivial⟩⟩

abbrev KeyNo (d : List UInt8) : Prop := ACalls Tryd.prog (gS 142) 17 [.bts d] [] (.tup [.lit (.slice none 0 0), .lit (.slice none 0 0), .lit (.bool false)]) []
abbrev KeyYes (d x r : List UInt8) : Prop := ACalls Tryd.prog (gS 142) 17 [.bts d] [] (.tup [.bts x, .bts r, .lit (.bool true)]) []

theorem Le_k (r : List UInt8) (t : Nat) (v : AV) : Le (.tup [.lit (.slice none 0 0), .bts r, .ifc t v]) (.tup [.bts [], .bts r, errAV t]) :=
  Le_tup ⟨Le_nil, Le.refl _, Le_ifc _ _, trivial⟩

theorem keyCut (d : List UInt8) (h : ACalls Tryd.prog (gS 142) 39 [.bts d] [] (.tup [.bts [], .bts [], errAV 142]) []) : KeyNo d :=
  km2 d [] d 142 ⟨(mk2 d ⟨h, trivial⟩).le (leAll_refl _) (Le_k _ _ _) rfl, trivial⟩

theorem keyOther (b : UInt8) (d : List UInt8) (h1 : b.toNat < 160 ∨ 192 ≤ b.toNat) (h2 : b.toNat ≠ 217) (h3 : b.toNat ≠ 218) (h4 : b.toNat ≠ 219) (h5 : b.toNat < 196 ∨ 198 < b.toNat) : KeyNo (b :: d) := by
  obtain ⟨c, hc, h⟩ := strType b d h1 h2 h3 h4
  have hc' : (c == (2 : Int)) = false := by
    have : c ≠ 2 := fun e => by have := hc.1 e; omega
    simpa using this
  exact km2 (b :: d) [] (b :: d) 81 ⟨(mk3 (b :: d) c ⟨hc', h, trivial⟩).le (leAll_refl _) (Le_k _ _ _) rfl, trivial⟩

theorem keyText (d x r : List UInt8) (hx : x.length ≤ 140737488355328) (hr : r.length ≤ 140737488355328) (h : ACalls Tryd.prog (gS 142) 39 [.bts d] [] (.tup [.bts x, .bts r, .lit .nilIface]) []) : KeyYes d x r :=
  km1 d x r ⟨(copyC r hr).anyG _, (copyC x hx).anyG _, mk1 d x r ⟨h, trivial⟩, trivial⟩

theorem binType (b : UInt8) (hb : b = 196 ∨ b = 197 ∨ b = 198) (d : List UInt8) : ACalls Tryd.prog (gS 142) 39 [.bts (b :: d)] [] (.tup [.lit (.slice none 0 0), .lit (.slice none 0 0), .ifc 81 (.agg [.lit (.int .u8 1), .lit (.int .u8 2), .lit (.string (ByteArray.mk #[]))])]) [] := by
  have hn : 196 ≤ b.toNat ∧ b.toNat ≤ 198 := by rcases hb with rfl | rfl | rfl <;> decide
  obtain ⟨c, hc, h⟩ := strType b d (by omega) (by omega) (by omega) (by omega)
  obtain rfl : c = 2 := hc.2 hn
  exact h

theorem keyBin (b : UInt8) (hb : b = 196 ∨ b = 197 ∨ b = 198) (d x r : List UInt8) (hx : x.length ≤ 140737488355328) (hr : r.length ≤ 140737488355328)
    (h : ACalls Tryd.prog (gS 142) 58 [.bts (b :: d), .lit (.slice none 0 0), .lit (.bool true)] [] (.tup [.bts x, .bts r, .lit .nilIface]) []) : KeyYes (b :: d) x r :=
  km1 (b :: d) x r ⟨(copyC r hr).anyG _, (copyC x hx).anyG _, mk4 (b :: d) x r ⟨rz (b :: d) x r ⟨h, trivial⟩, binType b hb d, trivial⟩, trivial⟩

theorem keyBinCut (b : UInt8) (hb : b = 196 ∨ b = 197 ∨ b = 198) (d : List UInt8) (h : ACalls Tryd.prog (gS 142) 58 [.bts (b :: d), .lit (.slice none 0 0), .lit (.bool true)] [] (.tup [.bts [], .bts [], errAV 142]) []) : KeyNo (b :: d) :=
  km2 (b :: d) [] [] 142 ⟨mk5 (b :: d) [] [] 142 ⟨rze (b :: d) [] [] 142 ⟨h, trivial⟩, binType b hb d, trivial⟩, trivial⟩

theorem keySample : ACalls Tryd.prog (gS 142) 17 [.own 0 0 2 (some 2)] [.bytes 5 [161, 97]] (.tup [.bts [97], .bts [], .lit (.bool true)]) [.gone] :=
  ACalls.freezeArg 0 rfl rfl ((keyText [161, 97] [97] [] (by simp) (by simp) ((strForm 142 [97] [161] (by simp) head97).1 [])).frame [.gone] (by simp [leAll, AV.ren]) rfl)

/-- The bytes of a value that is put. -/
theorem encBin {k u : Int} {t : ByteArray} {e : Int} {n : Nat} {f : Nat → PackT} {out : List UInt8} {l : Int} (hk : k = 7) (hf : (PackT.mk k u t e n f).fits l = true) (h : Enc (.mk k u t e n f) out) :
    t.size ≤ 131072 ∧ ∃ hd, HeadOut t.data.toList.length (-1) 0 (f3 196 197 198) hd ∧ out = hd ++ t.data.toList := by
  subst hk
  simp only [PackT.fits, Bool.and_eq_true, Bool.not_eq_true'] at hf
  have ff := fitsFacts hf.1.1 hf.1.2
  simp only [Enc] at h
  rcases h with ⟨h, _⟩ | ⟨h, _⟩ | ⟨h, _⟩ | ⟨h, _⟩ | ⟨h, _⟩ | ⟨h, _⟩ | ⟨h, _⟩ | ⟨_, hd, h1, h2⟩ | ⟨h, _⟩ | ⟨h, _⟩ | ⟨h, _⟩ <;> first | exact absurd h (by decide) | skip
  exact ⟨by omega, hd, by rw [sizeData]; exact h1, h2⟩

theorem fnGetMapKeyC (p : PackT) (hw : p.wf) (fs : Int) (sb : Bool) (bh : List UInt8) (ct : Int) : ACalls Tryd.prog (gS 142) 7 [gAV p fs sb bh ct] [] (.lit (.bool true)) [] := by
  by_cases hb : bh.length ≤ 2147483647
  · have z := zzYes (gS 142) p fs sb bh ct hb
    have s := keySample
    have rl : RowLe (Row.bytes 5 [UInt8.ofNat 161, UInt8.ofNat 97]) (Row.bytes 5 [(161 : UInt8), (97 : UInt8)]) ∧ True := ⟨RowLe.refl _, trivial⟩
    rcases dataC p hw fs sb bh ct with hd | ⟨out, d, r, cu, ho, hf, _, hl, hbl, hcase, hd⟩
    · exact lm1 p fs sb bh ct ⟨hd.anyG _, s, rl, z, trivial⟩
    · have hd := hd.anyG (gS 142)
      have lead := encLead p out 6 hw hf ho
      by_cases hk : p.kind = 6 ∨ p.kind = 7
      · obtain ⟨k, u, t, e, n, f, rfl⟩ : ∃ k u t e n f, p = .mk k u t e n f := by
          cases p with
          | nul => simp [PackT.kind] at hk
          | mk k u t e n f => exact ⟨k, u, t, e, n, f, rfl⟩
        have key : (∀ r : List UInt8, r.length ≤ 1000 → KeyYes (out ++ r) t.data.toList r) ∧ (∀ m, m < out.length → KeyNo (out.take m)) := by
          rcases hk with hk | hk
          · obtain ⟨ht, hd', h1, rfl⟩ := encText hk hf ho
            have S := strForm 142 t.data.toList hd' (by rw [sizeData]; exact ht) h1
            exact ⟨fun r hr => keyText _ _ r (by rw [sizeData]; omega) (by omega) (S.1 r), fun m hm => keyCut _ (S.2 m hm)⟩
          · obtain ⟨ht, hd', h1, rfl⟩ := encBin hk hf ho
            obtain ⟨b, hr', rfl, hb', S1, S2⟩ := binForm t.data.toList hd' (by rw [sizeData]; exact ht) h1
            refine ⟨fun r hr => keyBin b hb' _ _ r (by rw [sizeData]; omega) (by omega) (S1 r), fun m hm => ?_⟩
            cases m with
            | zero => exact keyCut _ (strNone 142)
            | succ m => exact keyBinCut b hb' _ (S2 m hm)
        rcases hcase with ⟨rfl, rfl, m, hm, rfl⟩ | ⟨rfl, rfl, rfl⟩
        · exact lm2 _ fs sb bh ct _ _ true ⟨rfl, key.2 m hm, hd, s, rl, z, trivial⟩
        · have hk2 : (bif false then true else !bif (PackT.mk k u t e n f).kind == (6 : Int) then true else (PackT.mk k u t e n f).kind == (7 : Int)) = false := by
            rcases hk with hk | hk <;> simp [hk]
          have et : (ByteArray.mk t.data.toList.toArray) = t := by cases t; simp
          exact (lm3 (.mk k u t e n f) fs sb r ct _ _ false t.data.toList ⟨sameLeft _ r, by rw [et]; simp [PackT.text], by rw [et]; simp [PackT.text], by rw [et]; simp [PackT.text], hk2, key.1 r (by omega), hd, s, rl, z, trivial⟩).cast rfl rfl (by rw [et]; simp [PackT.text]) rfl
      · have : KeyNo d := by
          rcases firstOf (p := p) lead hcase with rfl | ⟨b, r', rfl, h2⟩
          · exact keyCut _ (strNone 142)
          · unfold Lead at h2
            exact keyOther b r' (by omega) (by omega) (by omega) (by omega) (by omega)
        have hk2 : (bif cu then true else !bif p.kind == (6 : Int) then true else p.kind == (7 : Int)) = true := by
          have h6 : p.kind ≠ 6 := fun e => hk (.inl e)
          have h7 : p.kind ≠ 7 := fun e => hk (.inr e)
          cases cu <;> simp [h6, h7]
        exact lm2 p fs sb bh ct d r cu ⟨hk2, this, hd, s, rl, z, trivial⟩
  · exact lm0 p fs sb bh ct ⟨zzNo _ p fs sb bh ct hb, trivial⟩
end Go.Ax
