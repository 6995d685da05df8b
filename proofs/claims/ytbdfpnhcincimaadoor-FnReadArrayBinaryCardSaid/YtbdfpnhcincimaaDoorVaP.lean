/-
  What the laws that read one value have in common: codes tell kinds; the data by value; leaves that are the same.
-/
import Derived.Test.YtbdfpnhcincimaaDoorVaO
import Derived.Test.YtbdfpnhcincimaaDoorZx
import Derived.Test.YtbdfpnhcincimaaDoorZz
set_option linter.unusedVariables false
set_option linter.unusedSimpArgs false
set_option maxRecDepth 100000
set_option maxHeartbeats 1000000
namespace Go.Ax
open Go.Proofs

/-- The kind that a code tells. -/
def kindAt (c : Int) : Int := mgetI [(64, 0), (65, 1), (66, 1), (86, 1), (80, 2), (96, 3), (112, 4), (82, 4), (67, 4), (128, 5), (83, 5), (68, 5), (81, 6), (97, 7), (113, 8), (84, 8), (129, 9), (85, 9), (114, 10), (130, 11), (116, 12), (132, 13), (148, 14), (115, 15), (131, 16), (152, 17), (160, 18), (176, 18), (161, 19), (177, 19), (163, 20), (179, 20), (69, 21), (192, 21), (208, 21), (193, 22), (209, 22), (224, 23), (240, 23)] c (-1)

theorem NumF_CK {k u c : Int} {x : List UInt8} (hk : NumK k) (h : NumF k u c x) : kindAt c = k := by
  rcases h with ⟨rfl, _⟩ | ⟨rfl, _, rfl, _⟩ | ⟨rfl, _, rfl, _⟩ | ⟨rfl, _, rfl, _⟩ | ⟨rfl, _, rfl, _⟩ | ⟨rfl, _, rfl, _⟩ | ⟨rfl, _, rfl, _⟩
  · rcases hk.cases with rfl | rfl | rfl | rfl | rfl | rfl | rfl | rfl | rfl | rfl | rfl | rfl | rfl | rfl <;> rfl
  all_goals rfl

theorem PieceF_CK {k u : Int} {t : ByteArray} {n : Nat} {f : Nat → ValT} {o c : Int} {x : List UInt8} (hk0 : 0 ≤ k) (hk1 : k < 24) (hu0 : 0 ≤ u) (hu1 : k = 1 → u ≤ 1) (h : PieceF k u t n f o c x) : kindAt c = k := by
  obtain ⟨_, _, hl, h21, h22, h23⟩ := h
  by_cases hle : k ≤ 20
  · rcases hl hle with ⟨rfl, rfl, _⟩ | ⟨rfl, ⟨rfl, _⟩ | ⟨rfl, _⟩⟩ | ⟨hk, hc⟩ | ⟨rfl | rfl, rfl, _⟩ | ⟨rfl, ⟨rfl, _⟩ | ⟨rfl, _⟩⟩ | ⟨rfl, ⟨rfl, _⟩ | ⟨rfl, _⟩⟩ | ⟨rfl, ⟨rfl, _⟩ | ⟨rfl, _⟩⟩
    · rfl
    · have := hu1 rfl
      rcases (show u = 0 ∨ u = 1 by omega) with rfl | rfl <;> rfl
    · rfl
    · exact NumF_CK hk hc
    all_goals rfl
  · have : k = 21 ∨ k = 22 ∨ k = 23 := by omega
    rcases this with rfl | rfl | rfl
    · rcases h21 rfl with rfl | rfl | rfl <;> rfl
    · obtain ⟨d, _, _, h⟩ := h22 rfl
      rcases CntF_code h with rfl | rfl <;> rfl
    · obtain ⟨b, _, _, h⟩ := h23 rfl
      rcases CntF_code h with rfl | rfl <;> rfl

theorem byteI_eq {c : Int} (h0 : 0 ≤ c) (h1 : c < 256) : ((byteI c).toNat : Int) = c := by rw [byteI_nat]; omega

/-- What is asked, by the first byte. -/
theorem Asked.head {p : ValT} {bh out : List UInt8} (h : Asked p bh out) : ∃ (c : Int) (x : List UInt8), out = byteI c :: x ∧ 0 < c ∧ c < 256 ∧ kindAt c = p.kind ∧ PieceF p.kind p.num p.text p.n p.kidf p.kof c x := by
  obtain ⟨c, x, h1, h2⟩ := h.out.2.2 h.nd
  have hk := fits_kind h.ok.fits
  have hu : 0 ≤ p.num ∧ (p.kind = 1 → p.num ≤ 1) := by
    have := h.ok
    cases p with
    | nul => exact ⟨Int.le_refl 0, fun h => by cases h⟩
    | mk k u t n f o d g => exact ⟨this.1.2.2.1, this.1.2.2.2.2.2.2.1⟩
  exact ⟨c, x, h1, h2.1, h2.2.1, PieceF_CK hk.1 hk.2 hu.1 hu.2 h2, h2⟩

/-- The data that a law is given, by value. -/
theorem dataB {G : Env} (hV : ValidAt G) (p : ValT) (hw : p.wf) (fs : Int) (bh : List UInt8) (ct : Int) (hc : ct < 9223372036854775808) :
    ACalls Tryd.prog G 15 [hAV p fs bh ct] [] (.tup [.bts [], .bts [], .lit (.bool false), .lit (.bool false)]) [] ∨
    ∃ out : List UInt8, Asked p bh out ∧
      ((∃ m : Nat, m < out.length ∧ ACalls Tryd.prog G 15 [hAV p fs bh ct] [] (.tup [.bts (out.take m), .bts [], .lit (.bool true), .lit (.bool true)]) []) ∨
       ACalls Tryd.prog G 15 [hAV p fs bh ct] [] (.tup [.bts (out ++ bh), .bts bh, .lit (.bool false), .lit (.bool true)]) []) := by
  rcases dataC hV p hw fs bh ct hc with h | ⟨out, ha, ⟨_, m, hm, h⟩ | ⟨_, h⟩⟩
  · exact .inl h
  · exact .inr ⟨out, ha, .inl ⟨m, hm, (h.freezeRet 0 rfl rfl).only [] rfl⟩⟩
  · refine .inr ⟨out, ha, .inr ?_⟩
    have h2 := (h.freezeRet 0 rfl rfl).only [] rfl
    exact h2.le (leAll_refl _) (Le_tup ⟨Le_take (out ++ bh), Le.refl _, Le.refl _, Le.refl _, trivial⟩) rfl

theorem zzYes (G : Env) (p : ValT) (fs : Int) (bh : List UInt8) (ct : Int) (h : bh.length ≤ 2147483647) : ACalls Tryd.prog G 12 [hAV p fs bh ct] [] (.lit (.bool true)) [] :=
  (zzA p fs bh ct ⟨by omega, trivial⟩).anyG G
theorem zzNo (G : Env) (p : ValT) (fs : Int) (bh : List UInt8) (ct : Int) (h : ¬bh.length ≤ 2147483647) : ACalls Tryd.prog G 12 [hAV p fs bh ct] [] (.lit (.bool false)) [] :=
  (zzB p fs bh ct ⟨by simp; omega, trivial⟩).anyG G

/-! ### Numbers, read as they were written -/
theorem beN_4 (b0 : UInt8) (u : Int) (r : List UInt8) (h0 : 0 ≤ u) (h1 : u < 4294967296) : (beN (b0 :: (beL u 4 ++ r)) 1 4 : Int) = u := by
  have q : ∀ k : Int, 0 < k → ((byteI (u.fdiv k)).toNat : Int) = u / k % 256 := fun k hk => by
    rw [byteI_nat, fdiv_pos _ _ (by omega)]; have := Int.emod_nonneg (u / k) (show (256 : Int) ≠ 0 by decide); omega
  have e : beN (b0 :: (beL u 4 ++ r)) 1 4 = ((((byteI (u.fdiv 16777216)).toNat * 256 + (byteI (u.fdiv 65536)).toNat) * 256 + (byteI (u.fdiv 256)).toNat) * 256 + (byteI u).toNat) := by
    simp [beN, beL]
  have q0 : ((byteI u).toNat : Int) = u % 256 := by rw [byteI_nat]; omega
  have q1 := q 256 (by decide); have q2 := q 65536 (by decide); have q3 := q 16777216 (by decide)
  rw [e]
  simp only [Int.natCast_add, Int.natCast_mul, q0, q1, q2, q3]
  omega

end Go.Ax
