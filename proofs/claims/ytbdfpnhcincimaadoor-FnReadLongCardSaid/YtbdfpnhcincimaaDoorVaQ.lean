/-
  laws.FnReadLong: what the function computes.
-/
import Derived.Test.YtbdfpnhcincimaaDoorVaP
import Derived.Test.YtbdfpnhcincimaaDoorZ1
import Derived.Test.YtbdfpnhcincimaaDoorZ3
set_option linter.unusedVariables false
set_option linter.unusedSimpArgs false
set_option maxRecDepth 100000
set_option maxHeartbeats 1000000
namespace Go.Ax
open Go.Proofs

theorem idle42 : IdleD Tryd.prog 42 := idle_of2 (fn := Tryd.f42) Tryd.func42 (by kernel_rfl) (by kernel_rfl) (fun ρ => by kernel_rfl) (by kernel_rfl)
theorem idle38 : IdleD Tryd.prog 38 := idle_of2 (fn := Tryd.f38) Tryd.func38 (by kernel_rfl) (by kernel_rfl) (fun ρ => by kernel_rfl) (by kernel_rfl)

theorem rdNil3 {a b c : AV} (h : b = .lit (.slice none 0 0)) : Le (.tup [a, b, c]) (.tup [a, .bts [], c]) := by subst h; exact Le_tup ⟨Le.refl _, Le_nil, Le.refl _, trivial⟩

theorem longYes (u0 : Nat) (b : UInt8) (r : List UInt8) (hr : r.length ≤ 300000000) : ACalls Tryd.prog (gR u0) 14 [.bts (85 :: b :: r)] [] (.tup [.lit (.int .i64 (IntKind.i64.wrap (IntKind.i8.wrap b.toNat))), .bts r, .lit (.bool true)]) [] := by
  have i42 := idle42
  have a := rlA u0 (85 :: b :: r) (by simp; omega) (by simp only [AllP]; repeat' (first | exact trivial | with_reducible apply And.intro | assumption | (simp; done) | (simp; omega) | omega))
  have a2 := (a.freezeRet 0 rfl rfl).only [] rfl
  refine a2.le (leAll_refl _) (Le_tup ⟨Le.refl _, ?_, Le.refl _, trivial⟩) rfl
  show Le (.bts ((r.drop 0).take ((85 :: b :: r).length - 2))) (.bts r)
  rw [show (85 :: b :: r).length - 2 = r.length by simp]
  exact Le_take r

theorem longYes8 (u0 : Nat) (r : List UInt8) (h : 8 ≤ r.length) (hr : r.length ≤ 300000000) : ACalls Tryd.prog (gR u0) 14 [.bts (129 :: r)] [] (.tup [.lit (.int .i64 (IntKind.i64.wrap (beN (129 :: r) 1 8))), .bts (r.drop 8), .lit (.bool true)]) [] := by
  have i42 := idle42
  have be := be8A (gR u0) (129 :: r) 1 (by simp; omega)
  have a := rlB u0 (129 :: r) (by simp; omega) (beN (129 :: r) 1 8) (by simp only [AllP]; repeat' (first | exact trivial | with_reducible apply And.intro | assumption | (simp; done) | (simp; omega) | omega))
  have a2 := (a.freezeRet 0 rfl rfl).only [] rfl
  refine a2.le (leAll_refl _) (Le_tup ⟨Le.refl _, ?_, Le.refl _, trivial⟩) rfl
  show Le (.bts (((r.drop 8).drop 0).take ((129 :: r).length - 9))) (.bts (r.drop 8))
  rw [show (129 :: r).length - 9 = (r.drop 8).length by simp]
  exact Le_take _

/-- What is no long. -/
def NoLong (bs : List UInt8) : Prop := bs = [] ∨ ∃ b r, bs = b :: r ∧ ((¬((b.toNat : Int) = 85 ∨ (b.toNat : Int) = 129)) ∨ ((b.toNat : Int) = 85 ∧ r.length < 1) ∨ ((b.toNat : Int) = 129 ∧ r.length < 8))

theorem longNo' (u0 : Nat) (bs : List UInt8) (hl : bs.length ≤ 400000000) (h : NoLong bs) : ACalls Tryd.prog (gR u0) 14 [.bts bs] [] (.tup [.lit (.int .i64 0), .bts [], .lit (.bool false)]) [] := by
  have i42 := idle42
  have fin : ∀ (h : ACalls Tryd.prog (gR u0) 14 [.bts bs] [] (.tup [.lit (.int .i64 0), .lit (.slice none 0 0), .lit (.bool false)]) []), ACalls Tryd.prog (gR u0) 14 [.bts bs] [] (.tup [.lit (.int .i64 0), .bts [], .lit (.bool false)]) [] := fun h => h.le (leAll_refl _) (rdNil3 rfl) rfl
  rcases h with rfl | ⟨b, r, rfl, h | ⟨h1, h2⟩ | ⟨h1, h2⟩⟩
  · exact fin (rlD u0 [] (by simp) (by simp only [AllP]; repeat' (first | exact trivial | with_reducible apply And.intro | assumption | (simp; done) | (simp; omega) | omega)))
  · exact fin (rlC u0 (b :: r) (by omega) (by simp only [AllP]; repeat' (first | exact trivial | with_reducible apply And.intro | assumption | (simp; done) | (simp; omega) | omega)))
  · exact fin (rlE u0 (b :: r) (by omega) (by simp only [AllP]; repeat' (first | exact trivial | with_reducible apply And.intro | assumption | (simp; done) | (simp; omega) | omega)))
  · exact fin (rlF u0 (b :: r) (by omega) (by simp only [AllP]; repeat' (first | exact trivial | with_reducible apply And.intro | assumption | (simp; done) | (simp; omega) | omega)))

theorem longNo (u0 : Nat) (bs : List UInt8) (hl : bs.length ≤ 400000000) (h : bs = [] ∨ ∃ b r, bs = b :: r ∧ ((¬((b.toNat : Int) = 85 ∨ (b.toNat : Int) = 129)) ∨ ((b.toNat : Int) = 85 ∧ r.length < 1) ∨ ((b.toNat : Int) = 129 ∧ r.length < 8))) :
    ACalls Tryd.prog (gR u0) 14 [.bts bs] [] (.tup [.lit (.int .i64 0), .bts [], .lit (.bool false)]) [] := longNo' u0 bs hl h

theorem longSample (u0 : Nat) : ACalls Tryd.prog (gR u0) 14 [.own 0 0 2 none] [.bytes 5 [85, 5]] (.tup [.lit (.int .i64 5), .bts [], .lit (.bool true)]) [.gone] :=
  ACalls.freezeArg 0 rfl rfl ((longYes u0 5 [] (by simp)).frame [.gone] (by simp [leAll, AV.ren]) rfl)

theorem leaf9 {u c : Int} {t : ByteArray} {n : Nat} {f : Nat → ValT} {o : Int} {x : List UInt8} (h : PieceF 9 u t n f o c x) : (c = 129 ∧ x = beL u 8) ∨ (c = 85 ∧ x = [byteI u] ∧ -128 ≤ IntKind.i64.wrap u ∧ IntKind.i64.wrap u < 128) := by
  rcases h.2.2.1 (by omega) with ⟨h, _⟩ | ⟨h, _⟩ | ⟨_, h⟩ | ⟨h, _⟩ | ⟨h, _⟩ | ⟨h, _⟩ | ⟨h, _⟩
  · omega
  · omega
  · rcases h with ⟨rfl, rfl⟩ | ⟨h, _⟩ | ⟨h, _⟩ | ⟨h, _⟩ | ⟨h, _⟩ | ⟨h, _⟩ | ⟨_, hr, rfl, rfl⟩
    · exact .inl ⟨rfl, rfl⟩
    · omega
    · omega
    · omega
    · omega
    · omega
    · exact .inr ⟨rfl, rfl, hr.1, hr.2⟩
  all_goals omega

theorem fnReadLongCut (p : ValT) (c : Int) (x : List UInt8) (m : Nat) (ck : kindAt c = p.kind) (hP : PieceF p.kind p.num p.text p.n p.kidf p.kof c x) (hm : m < x.length) :
    (¬(c = 85 ∨ c = 129)) ∨ (c = 85 ∧ (x.take m).length < 1) ∨ (c = 129 ∧ (x.take m).length < 8) := by
  by_cases h : c = 85 ∨ c = 129
  · have hk : p.kind = 9 := by rw [← ck]; rcases h with rfl | rfl <;> rfl
    rw [hk] at hP
    have e := List.length_take (i := m) (l := x)
    rcases leaf9 hP with ⟨rfl, rfl⟩ | ⟨rfl, rfl, _⟩
    · have := beL_len p.num (z := 8) (by omega)
      exact .inr (.inr ⟨rfl, by omega⟩)
    · simp at hm
      subst hm
      exact .inr (.inl ⟨rfl, by simp⟩)
  · exact .inl h

theorem fnReadLongC (u0 : Nat) (p : ValT) (hw : p.wf) (fs : Int) (bh : List UInt8) (ct : Int) (hct : ct < 9223372036854775808) : ACalls Tryd.prog (gR u0) 3 [hAV p fs bh ct] [] (.lit (.bool true)) [] := by
  by_cases hb : bh.length ≤ 2147483647
  · have hz := zzYes (gR u0) p fs bh ct hb
    have hs := longSample u0
    rcases dataB (validR u0) p hw fs bh ct hct with h | ⟨out, ha, ⟨m, hm, h⟩ | h⟩
    · exact flA u0 p fs bh ct ⟨h, hs, idle38, hz, trivial⟩
    · obtain ⟨c, x, he, c0, c1, ck, hP⟩ := ha.head
      have hl := ha.len
      refine flB u0 p fs bh ct (out.take m) ⟨longNo u0 _ (by rw [List.length_take]; omega) ?_, h, hs, idle38, hz, trivial⟩
      subst he
      cases m with
      | zero => exact .inl rfl
      | succ m =>
        have hbc := byteI_eq (c := c) (by omega) c1
        refine .inr ⟨byteI c, x.take m, rfl, ?_⟩
        rw [hbc]
        exact fnReadLongCut p c x m ck hP (by simpa using hm)
    · obtain ⟨c, x, he, c0, c1, ck, hP⟩ := ha.head
      have hl := ha.len
      have hbl := ha.bh
      have hbc := byteI_eq (c := c) (by omega) c1
      by_cases hk : p.kind = 9
      · cases p with
        | nul => exact absurd hk (by decide)
        | mk k u t n f o d g =>
          obtain rfl : k = 9 := hk
          obtain ⟨⟨_, _, q2, _⟩, ⟨q3, q4, _, _, _, q5⟩, _⟩ := ha.ok
          obtain rfl : n = 0 := q3 (by decide) (by decide) (by decide)
          obtain rfl : d = 0 := ha.nd
          have ht : t.toList = (ByteArray.mk #[]).toList := by rw [q4 (by omega) (by omega)]; simp
          rcases leaf9 hP with ⟨rfl, rfl⟩ | ⟨rfl, rfl, r1, r2⟩
          · have hx : out ++ bh = 129 :: (beL u 8 ++ bh) := by rw [he]; rfl
            have l8 := beL_len u (z := 8) (by omega)
            have hv : IntKind.u64.wrap (IntKind.i64.wrap (beN (129 :: (beL u 8 ++ bh)) 1 8)) = u := by rw [beN_8 _ u bh q2 q5, wrapU64, wrapS64]; omega
            rw [hx] at h
            have y := longYes8 u0 (beL u 8 ++ bh) (by rw [List.length_append]; omega) (by rw [List.length_append]; omega)
            have hdrop : (beL u 8 ++ bh).drop 8 = bh := by rw [List.drop_append, List.drop_eq_nil_of_le (by omega), List.nil_append, show 8 - (beL u 8).length = 0 by omega]; rfl
            rw [hdrop] at y
            refine (flD u0 _ fs bh ct _ bh _ ⟨?_, rfl, y, h, hs, idle38, hz, trivial⟩).cast rfl rfl (by simp) rfl
            rw [hv]
            exact sameLeaf (gR u0) 9 u t f o g _ ht
          · have r1 : -128 ≤ IntKind.i64.wrap u := r1
            have r2 : IntKind.i64.wrap u < 128 := r2
            have hx : out ++ bh = 85 :: byteI u :: bh := by rw [he]; rfl
            have hbu : ((byteI u).toNat : Int) = u % 256 := by rw [byteI_nat]; omega
            have hv : IntKind.u64.wrap (IntKind.i64.wrap (IntKind.i8.wrap (byteI u).toNat)) = u := by rw [hbu, wrapU64, wrapS64, wrapS8]; rw [wrapS64] at r1 r2; omega
            rw [hx] at h
            have y := longYes u0 (byteI u) bh (by omega)
            refine (flD u0 _ fs bh ct _ bh _ ⟨?_, rfl, y, h, hs, idle38, hz, trivial⟩).cast rfl rfl (by simp) rfl
            rw [hv]
            exact sameLeaf (gR u0) 9 u t f o g _ ht
      · refine flC u0 p fs bh ct (out ++ bh) ⟨hk, longNo u0 _ (by rw [List.length_append]; omega) ?_, h, hs, idle38, hz, trivial⟩
        subst he
        refine .inr ⟨byteI c, x ++ bh, rfl, ?_⟩
        rw [hbc]
        refine .inl (fun hc => hk ?_)
        rw [← ck]; rcases hc with rfl | rfl <;> rfl
  · exact flZ u0 p fs bh ct ⟨zzNo (gR u0) p fs bh ct hb, trivial⟩
end Go.Ax
