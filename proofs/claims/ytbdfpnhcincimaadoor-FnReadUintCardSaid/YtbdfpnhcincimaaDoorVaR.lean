/-
  laws.FnReadUint: what the function computes.
-/
import Derived.Test.YtbdfpnhcincimaaDoorVaP
import Derived.Test.YtbdfpnhcincimaaDoorZ2
import Derived.Test.YtbdfpnhcincimaaDoorZ4
set_option linter.unusedVariables false
set_option linter.unusedSimpArgs false
set_option maxRecDepth 100000
set_option maxHeartbeats 1000000
namespace Go.Ax
open Go.Proofs

theorem idle50 : IdleD Tryd.prog 50 := idle_of2 (fn := Tryd.f50) Tryd.func50 (by kernel_rfl) (by kernel_rfl) (fun ρ => by kernel_rfl) (by kernel_rfl)
theorem idle38u : IdleD Tryd.prog 38 := idle_of2 (fn := Tryd.f38) Tryd.func38 (by kernel_rfl) (by kernel_rfl) (fun ρ => by kernel_rfl) (by kernel_rfl)

theorem uintYes0 (u0 : Nat) (r : List UInt8) (hr : r.length ≤ 300000000) : ACalls Tryd.prog (gR u0) 19 [.bts (67 :: r)] [] (.tup [.lit (.int .u32 0), .bts r, .lit (.bool true)]) [] := by
  have i50 := idle50
  have a := ruA u0 (67 :: r) (by simp; omega) (by simp only [AllP]; repeat' (first | exact trivial | with_reducible apply And.intro | assumption | (simp; done) | (simp; omega) | omega))
  have a2 := (a.freezeRet 0 rfl rfl).only [] rfl
  refine a2.le (leAll_refl _) (Le_tup ⟨Le.refl _, ?_, Le.refl _, trivial⟩) rfl
  show Le (.bts ((r.drop 0).take ((67 :: r).length - 1))) (.bts r)
  rw [show (67 :: r).length - 1 = r.length by simp]
  exact Le_take r

theorem uintYes1 (u0 : Nat) (b : UInt8) (r : List UInt8) (hr : r.length ≤ 300000000) : ACalls Tryd.prog (gR u0) 19 [.bts (82 :: b :: r)] [] (.tup [.lit (.int .u32 (IntKind.u32.wrap b.toNat)), .bts r, .lit (.bool true)]) [] := by
  have i50 := idle50
  have a := ruB u0 (82 :: b :: r) (by simp; omega) (by simp only [AllP]; repeat' (first | exact trivial | with_reducible apply And.intro | assumption | (simp; done) | (simp; omega) | omega))
  have a2 := (a.freezeRet 0 rfl rfl).only [] rfl
  refine a2.le (leAll_refl _) (Le_tup ⟨Le.refl _, ?_, Le.refl _, trivial⟩) rfl
  show Le (.bts ((r.drop 0).take ((82 :: b :: r).length - 2))) (.bts r)
  rw [show (82 :: b :: r).length - 2 = r.length by simp]
  exact Le_take r

theorem uintYes4 (u0 : Nat) (r : List UInt8) (h : 4 ≤ r.length) (hr : r.length ≤ 300000000) : ACalls Tryd.prog (gR u0) 19 [.bts (112 :: r)] [] (.tup [.lit (.int .u32 (beN (112 :: r) 1 4)), .bts (r.drop 4), .lit (.bool true)]) [] := by
  have i50 := idle50
  have be := be4B (gR u0) (112 :: r) 1 ((112 :: r).length - 1) (by simp; omega) (by simp; omega)
  have a := ruC u0 (112 :: r) (by simp; omega) (beN (112 :: r) 1 4) (by simp only [AllP]; repeat' (first | exact trivial | with_reducible apply And.intro | assumption | (simp; done) | (simp; omega) | omega))
  have a2 := (a.freezeRet 0 rfl rfl).only [] rfl
  refine a2.le (leAll_refl _) (Le_tup ⟨Le.refl _, ?_, Le.refl _, trivial⟩) rfl
  show Le (.bts (((r.drop 4).drop 0).take ((112 :: r).length - 5))) (.bts (r.drop 4))
  rw [show (112 :: r).length - 5 = (r.drop 4).length by simp]
  exact Le_take _

theorem uintNo (u0 : Nat) (bs : List UInt8) (hl : bs.length ≤ 400000000) (h : bs = [] ∨ ∃ b r, bs = b :: r ∧ ((¬((b.toNat : Int) = 67 ∨ (b.toNat : Int) = 82 ∨ (b.toNat : Int) = 112)) ∨ ((b.toNat : Int) = 82 ∧ r.length < 1) ∨ ((b.toNat : Int) = 112 ∧ r.length < 4))) :
    ACalls Tryd.prog (gR u0) 19 [.bts bs] [] (.tup [.lit (.int .u32 0), .bts [], .lit (.bool false)]) [] := by
  have i50 := idle50
  have fin : ∀ (h : ACalls Tryd.prog (gR u0) 19 [.bts bs] [] (.tup [.lit (.int .u32 0), .lit (.slice none 0 0), .lit (.bool false)]) []), ACalls Tryd.prog (gR u0) 19 [.bts bs] [] (.tup [.lit (.int .u32 0), .bts [], .lit (.bool false)]) [] := fun h => h.le (leAll_refl _) (Le_tup ⟨Le.refl _, Le_nil, Le.refl _, trivial⟩) rfl
  rcases h with rfl | ⟨b, r, rfl, h | ⟨h1, h2⟩ | ⟨h1, h2⟩⟩
  · exact fin (ruE u0 [] (by simp) (by simp only [AllP]; repeat' (first | exact trivial | with_reducible apply And.intro | assumption | (simp; done) | (simp; omega) | omega)))
  · exact fin (ruD u0 (b :: r) (by omega) (by simp only [AllP]; repeat' (first | exact trivial | with_reducible apply And.intro | assumption | (simp; done) | (simp; omega) | omega)))
  · exact fin (ruF u0 (b :: r) (by omega) (by simp only [AllP]; repeat' (first | exact trivial | with_reducible apply And.intro | assumption | (simp; done) | (simp; omega) | omega)))
  · exact fin (ruG u0 (b :: r) (by omega) (by simp only [AllP]; repeat' (first | exact trivial | with_reducible apply And.intro | assumption | (simp; done) | (simp; omega) | omega)))

theorem uintSample (u0 : Nat) : ACalls Tryd.prog (gR u0) 19 [.own 0 0 2 none] [.bytes 5 [82, 5]] (.tup [.lit (.int .u32 5), .bts [], .lit (.bool true)]) [.gone] :=
  ACalls.freezeArg 0 rfl rfl ((uintYes1 u0 5 [] (by simp)).frame [.gone] (by simp [leAll, AV.ren]) rfl)

theorem leaf4 {u c : Int} {t : ByteArray} {n : Nat} {f : Nat → ValT} {o : Int} {x : List UInt8} (h : PieceF 4 u t n f o c x) : (c = 112 ∧ x = beL u 4) ∨ (c = 82 ∧ x = [byteI u] ∧ u < 256) ∨ (c = 67 ∧ x = [] ∧ u = 0) := by
  rcases h.2.2.1 (by omega) with ⟨h, _⟩ | ⟨h, _⟩ | ⟨_, h⟩ | ⟨h, _⟩ | ⟨h, _⟩ | ⟨h, _⟩ | ⟨h, _⟩
  · omega
  · omega
  · rcases h with ⟨rfl, rfl⟩ | ⟨_, hr, rfl, rfl⟩ | ⟨h, _⟩ | ⟨_, hr, rfl, rfl⟩ | ⟨h, _⟩ | ⟨h, _⟩ | ⟨h, _⟩
    · exact .inl ⟨rfl, rfl⟩
    · exact .inr (.inl ⟨rfl, rfl, hr⟩)
    · omega
    · exact .inr (.inr ⟨rfl, rfl, hr⟩)
    · omega
    · omega
    · omega
  all_goals omega

theorem fnReadUintCut (p : ValT) (c : Int) (x : List UInt8) (m : Nat) (ck : kindAt c = p.kind) (hP : PieceF p.kind p.num p.text p.n p.kidf p.kof c x) (hm : m < x.length) :
    (¬(c = 67 ∨ c = 82 ∨ c = 112)) ∨ (c = 82 ∧ (x.take m).length < 1) ∨ (c = 112 ∧ (x.take m).length < 4) := by
  by_cases h : c = 67 ∨ c = 82 ∨ c = 112
  · have hk : p.kind = 4 := by rw [← ck]; rcases h with rfl | rfl | rfl <;> rfl
    rw [hk] at hP
    have e := List.length_take (i := m) (l := x)
    rcases leaf4 hP with ⟨rfl, rfl⟩ | ⟨rfl, rfl, _⟩ | ⟨rfl, rfl, _⟩
    · have := beL_len p.num (z := 4) (by omega)
      exact .inr (.inr ⟨rfl, by omega⟩)
    · simp at hm
      subst hm
      exact .inr (.inl ⟨rfl, by simp⟩)
    · simp at hm
  · exact .inl h

theorem fnReadUintC (u0 : Nat) (p : ValT) (hw : p.wf) (fs : Int) (bh : List UInt8) (ct : Int) (hct : ct < 9223372036854775808) : ACalls Tryd.prog (gR u0) 4 [hAV p fs bh ct] [] (.lit (.bool true)) [] := by
  by_cases hb : bh.length ≤ 2147483647
  · have hz := zzYes (gR u0) p fs bh ct hb
    have hs := uintSample u0
    rcases dataB (validR u0) p hw fs bh ct hct with h | ⟨out, ha, ⟨m, hm, h⟩ | h⟩
    · exact fuA u0 p fs bh ct ⟨h, hs, idle38u, hz, trivial⟩
    · obtain ⟨c, x, he, c0, c1, ck, hP⟩ := ha.head
      have hl := ha.len
      refine fuB u0 p fs bh ct (out.take m) ⟨uintNo u0 _ (by rw [List.length_take]; omega) ?_, h, hs, idle38u, hz, trivial⟩
      subst he
      cases m with
      | zero => exact .inl rfl
      | succ m =>
        have hbc := byteI_eq (c := c) (by omega) c1
        refine .inr ⟨byteI c, x.take m, rfl, ?_⟩
        rw [hbc]
        exact fnReadUintCut p c x m ck hP (by simpa using hm)
    · obtain ⟨c, x, he, c0, c1, ck, hP⟩ := ha.head
      have hl := ha.len
      have hbl := ha.bh
      have hbc := byteI_eq (c := c) (by omega) c1
      by_cases hk : p.kind = 4
      · cases p with
        | nul => exact absurd hk (by decide)
        | mk k u t n f o d g =>
          obtain rfl : k = 4 := hk
          obtain ⟨⟨_, _, q2, _⟩, ⟨q3, q4, _, _, qn, q5⟩, _⟩ := ha.ok
          have q6 : u < 4294967296 := qn.2.2.1 rfl
          obtain rfl : n = 0 := q3 (by decide) (by decide) (by decide)
          obtain rfl : d = 0 := ha.nd
          have ht : t.toList = (ByteArray.mk #[]).toList := by rw [q4 (by omega) (by omega)]; simp
          rcases leaf4 hP with ⟨rfl, rfl⟩ | ⟨rfl, rfl, r1⟩ | ⟨rfl, rfl, r1⟩
          · have hx : out ++ bh = 112 :: (beL u 4 ++ bh) := by rw [he]; rfl
            have l4 := beL_len u (z := 4) (by omega)
            have hv : IntKind.u64.wrap (beN (112 :: (beL u 4 ++ bh)) 1 4) = u := by rw [beN_4 _ u bh q2 q6, wrapU64]; omega
            rw [hx] at h
            have y := uintYes4 u0 (beL u 4 ++ bh) (by rw [List.length_append]; omega) (by rw [List.length_append]; omega)
            have hdrop : (beL u 4 ++ bh).drop 4 = bh := by rw [List.drop_append, List.drop_eq_nil_of_le (by omega), List.nil_append, show 4 - (beL u 4).length = 0 by omega]; rfl
            rw [hdrop] at y
            refine (fuD u0 _ fs bh ct _ bh _ ⟨?_, rfl, y, h, hs, idle38u, hz, trivial⟩).cast rfl rfl (by simp) rfl
            rw [hv]
            exact sameLeaf (gR u0) 4 u t f o g _ ht
          · have r1 : u < 256 := r1
            have hx : out ++ bh = 82 :: byteI u :: bh := by rw [he]; rfl
            have hbu : ((byteI u).toNat : Int) = u % 256 := by rw [byteI_nat]; omega
            have hv : IntKind.u64.wrap (IntKind.u32.wrap (byteI u).toNat) = u := by rw [hbu, wrapU64, wrapU32]; omega
            rw [hx] at h
            have y := uintYes1 u0 (byteI u) bh (by omega)
            refine (fuD u0 _ fs bh ct _ bh _ ⟨?_, rfl, y, h, hs, idle38u, hz, trivial⟩).cast rfl rfl (by simp) rfl
            rw [hv]
            exact sameLeaf (gR u0) 4 u t f o g _ ht
          · have r1 : u = 0 := r1
            have hx : out ++ bh = 67 :: bh := by rw [he]; rfl
            have hv : IntKind.u64.wrap 0 = u := by rw [wrapU64]; omega
            rw [hx] at h
            have y := uintYes0 u0 bh (by omega)
            refine (fuD u0 _ fs bh ct _ bh _ ⟨?_, rfl, y, h, hs, idle38u, hz, trivial⟩).cast rfl rfl (by simp) rfl
            rw [hv]
            exact sameLeaf (gR u0) 4 u t f o g _ ht
      · refine fuC u0 p fs bh ct (out ++ bh) ⟨hk, uintNo u0 _ (by rw [List.length_append]; omega) ?_, h, hs, idle38u, hz, trivial⟩
        subst he
        refine .inr ⟨byteI c, x ++ bh, rfl, ?_⟩
        rw [hbc]
        refine .inl (fun hc => hk ?_)
        rw [← ck]; rcases hc with rfl | rfl | rfl <;> rfl
  · exact fuZ u0 p fs bh ct ⟨zzNo (gR u0) p fs bh ct hb, trivial⟩
end Go.Ax
