/-
  laws.FnReadMapHead: what the function computes.
-/
import Derived.Test.YtbdfpnhcincimaaDoorVaP
import Derived.Test.YtbdfpnhcincimaaDoorZ5
import Derived.Test.YtbdfpnhcincimaaDoorZ6
set_option linter.unusedVariables false
set_option linter.unusedSimpArgs false
set_option maxRecDepth 100000
set_option maxHeartbeats 1000000
namespace Go.Ax
open Go.Proofs

theorem idle50m : IdleD Tryd.prog 50 := idle_of2 (fn := Tryd.f50) Tryd.func50 (by kernel_rfl) (by kernel_rfl) (fun ρ => by kernel_rfl) (by kernel_rfl)

theorem beN_8' (a : List UInt8) (u : Int) (r : List UInt8) (hu0 : 0 ≤ u) (hu1 : u < 4294967296) (ha : a.length = 4) (b0 : UInt8) : (beN (b0 :: (a ++ (beL u 4 ++ r))) 5 4 : Int) = u := by
  have e : beN (b0 :: (a ++ (beL u 4 ++ r))) 5 4 = beN (b0 :: (beL u 4 ++ r)) 1 4 := by
    match a, ha with
    | [x, y, z, w], _ => simp [beN]
  rw [e]
  exact beN_4 b0 u r hu0 hu1

theorem mapYes1 (u0 : Nat) (n : Nat) (d r : List UInt8) (h1 : d.length + 1 ≤ 255) (hn : n ≤ 255) (hnd : n ≤ d.length) (hr : r.length ≤ 300000000) :
    ACalls Tryd.prog (gR u0) 23 [.bts (193 :: byteI ((d.length : Int) + 1) :: byteI n :: (d ++ r))] [] (.tup [.lit (.int .u32 n), .bts (d ++ r), .lit (.bool true)]) [] := by
  have i50 := idle50m
  have b1 : ((byteI ((d.length : Int) + 1)).toNat : Int) = d.length + 1 := byteI_eq (by omega) (by omega)
  have b2 : ((byteI (n : Int)).toNat : Int) = n := byteI_eq (by omega) (by omega)
  have a := rmA u0 (193 :: byteI ((d.length : Int) + 1) :: byteI n :: (d ++ r)) (by simp; omega) (by
    have w1 : IntKind.i64.wrap ((d.length : Int) + 1) = d.length + 1 := wrap64 (by omega) (by omega)
    have w2 : IntKind.u32.wrap (n : Int) = n := by rw [wrapU32]; omega
    have w3 : IntKind.i64.wrap (n : Int) = n := wrap64 (by omega) (by omega)
    simp only [AllP, List.getElem?_cons_succ, List.getElem?_cons_zero, Option.getD_some, b1, b2, w1, w2, w3, List.length_cons, List.length_append]
    repeat' (first | exact trivial | with_reducible apply And.intro | assumption | omega | (simp; done)))
  have w2 : IntKind.u32.wrap (n : Int) = n := by rw [wrapU32]; omega
  have a2 := (a.freezeRet 0 rfl rfl).only [] rfl
  refine a2.le (leAll_refl _) (Le_tup ⟨?_, ?_, Le.refl _, trivial⟩) rfl
  · show Le (.lit (.int .u32 (IntKind.u32.wrap ((byteI (n : Int)).toNat : Int)))) _
    rw [b2, w2]; exact Le.refl _
  · show Le (.bts (((d ++ r).drop 0).take ((193 :: byteI ((d.length : Int) + 1) :: byteI n :: (d ++ r)).length - 3))) (.bts (d ++ r))
    rw [show (193 :: byteI ((d.length : Int) + 1) :: byteI n :: (d ++ r)).length - 3 = (d ++ r).length by simp]
    exact Le_take _

theorem sumN_one {g : Nat → Nat} (h : ∀ j, 1 ≤ g j) : ∀ (m i : Nat), m ≤ sumN g i m
  | 0, i => Nat.le_refl _
  | m + 1, i => by
    have a := sumN_one h m (i + 1)
    have b := h i
    simp only [sumN]
    omega

theorem cnt_pos : ∀ p : ValT, 1 ≤ p.cnt
  | .nul => Nat.le_refl _
  | .mk _ _ _ n f _ d g => by simp only [ValT.cnt]; omega

theorem n_cnt : ∀ p : ValT, p.n ≤ p.cnt
  | .nul => Nat.zero_le _
  | .mk _ _ _ n f _ d g => by
    have a := sumN_one (fun j => cnt_pos (f j)) n 0
    simp only [ValT.cnt, ValT.n]
    omega

theorem mapYes4 (u0 : Nat) (n : Nat) (d r : List UInt8) (h1 : d.length ≤ 1000000000) (hn : n ≤ 65536) (hnd : n ≤ d.length) (hr : (d ++ r).length ≤ 300000000) :
    ACalls Tryd.prog (gR u0) 23 [.bts (209 :: (beL ((d.length : Int) + 4) 4 ++ (beL n 4 ++ (d ++ r))))] [] (.tup [.lit (.int .u32 n), .bts (d ++ r), .lit (.bool true)]) [] := by
  have i50 := idle50m
  have l1 := beL_len ((d.length : Int) + 4) (z := 4) (by omega)
  have l2 := beL_len (n : Int) (z := 4) (by omega)
  have lt : (209 :: (beL ((d.length : Int) + 4) 4 ++ (beL n 4 ++ (d ++ r)))).length = 9 + (d ++ r).length := by simp only [List.length_cons, List.length_append]; omega
  have hdr : d.length ≤ (d ++ r).length := by simp
  have e1 := beN_4 209 ((d.length : Int) + 4) (beL n 4 ++ (d ++ r)) (by omega) (by omega)
  have e2 := beN_8' (beL ((d.length : Int) + 4) 4) n (d ++ r) (by omega) (by omega) (by omega) 209
  generalize hbs : (209 :: (beL ((d.length : Int) + 4) 4 ++ (beL n 4 ++ (d ++ r)))) = bs at *
  have be1 := be4A (gR u0) bs 1 (by omega)
  have be2 := be4A (gR u0) bs 5 (by omega)
  rw [e1] at be1
  rw [e2] at be2
  have hb0 : (((bs[0]?.getD 0).toNat : Nat) : Int) = 209 := by rw [← hbs]; rfl
  have a := rmB u0 bs (by omega) ((d.length : Int) + 4) n (by
    have w1 : IntKind.i64.wrap ((d.length : Int) + 4) = d.length + 4 := wrap64 (by omega) (by omega)
    have w3 : IntKind.i64.wrap (n : Int) = n := wrap64 (by omega) (by omega)
    simp only [AllP, hb0, w1, w3]
    repeat' (first | exact trivial | with_reducible apply And.intro | assumption | omega | (simp; done)))
  have a2 := (a.freezeRet 0 rfl rfl).only [] rfl
  refine a2.le (leAll_refl _) (Le_tup ⟨Le.refl _, ?_, Le.refl _, trivial⟩) rfl
  show Le (.bts (((bs.drop 9).drop 0).take (bs.length - 9))) (.bts (d ++ r))
  have hd : bs.drop 9 = d ++ r := by
    rw [← hbs, show (9 : Nat) = 8 + 1 from rfl, List.drop_succ_cons, ← List.append_assoc, List.drop_append, List.drop_eq_nil_of_le (by rw [List.length_append]; omega), List.nil_append, show 8 - (beL ((d.length : Int) + 4) 4 ++ beL n 4).length = 0 by rw [List.length_append]; omega]
    rfl
  rw [hd, show bs.length - 9 = (d ++ r).length by omega]
  exact Le_take _

theorem mapNo (u0 : Nat) (b : UInt8) (r : List UInt8) (hl : (b :: r).length ≤ 400000000) (h : ¬((b.toNat : Int) = 193 ∨ (b.toNat : Int) = 209)) :
    ACalls Tryd.prog (gR u0) 23 [.bts (b :: r)] [] (.tup [.lit (.int .u32 0), .bts [], .lit (.bool false)]) [] := by
  have i50 := idle50m
  exact (rmC u0 (b :: r) (by omega) (by simp only [AllP]; repeat' (first | exact trivial | with_reducible apply And.intro | assumption | (simp; done) | (simp; omega) | omega))).le (leAll_refl _) (Le_tup ⟨Le.refl _, Le_nil, Le.refl _, trivial⟩) rfl

theorem mapSample (u0 : Nat) : ACalls Tryd.prog (gR u0) 23 [.own 0 0 5 none] [.bytes 5 [193, 3, 2, 64, 64]] (.tup [.lit (.int .u32 2), .bts [64, 64], .lit (.bool true)]) [.gone] := by
  have e : ACalls Tryd.prog (gR u0) 23 [.bts [193, 3, 2, 64, 64]] [] (.tup [.lit (.int .u32 2), .bts [64, 64], .lit (.bool true)]) [] := mapYes1 u0 2 [64, 64] [] (by decide) (by decide) (by decide) (by decide)
  exact ACalls.freezeArg 0 rfl rfl (e.frame [.gone] (by simp [leAll, AV.ren]) rfl)

theorem fnReadMapHeadC (u0 : Nat) (p : ValT) (hw : p.wf) (fs : Int) (bh : List UInt8) (ct : Int) (hct : ct < 9223372036854775808) : ACalls Tryd.prog (gR u0) 6 [hAV p fs bh ct] [] (.lit (.bool true)) [] := by
  by_cases hb : bh.length ≤ 2147483647
  · have hz := zzYes (gR u0) p fs bh ct hb
    have hs := mapSample u0
    have lo : Le (AV.own 0 0 5 (some 5)) (AV.own 0 0 5 none) := Le_cap 0 0 5 (some 5)
    rcases dataB (validR u0) p hw fs bh ct hct with h | ⟨out, ha, ⟨m, hm, h⟩ | h⟩
    · exact fmA u0 p fs bh ct ⟨h, hs, lo, hz, trivial⟩
    · exact fmB u0 p fs bh ct (out.take m) ⟨h, hs, lo, hz, trivial⟩
    · obtain ⟨c, x, he, c0, c1, ck, hP⟩ := ha.head
      have hl := ha.len
      have hbl := ha.bh
      have hbc := byteI_eq (c := c) (by omega) c1
      by_cases hk : p.kind = 22
      · obtain ⟨d, hd, hnd, hc⟩ := hP.2.2.2.2.1 hk
        have hn5 : p.n ≤ 65536 := by have a := n_cnt p; have b := ha.few; omega
        have w : IntKind.i64.wrap (p.n : Int) = p.n := wrap64 (by omega) (by omega)
        subst he
        rcases hc with ⟨rfl, rfl, k1, k2⟩ | ⟨rfl, rfl⟩
        · have hdl : d.length ≤ 262204000 := by simp only [List.length_cons] at hl; omega
          have m := mapYes1 u0 p.n d bh k1 k2 hnd (by omega)
          have h' : ACalls Tryd.prog (gR u0) 15 [hAV p fs bh ct] [] (.tup [.bts (193 :: byteI ((d.length : Int) + 1) :: byteI p.n :: (d ++ bh)), .bts bh, .lit (.bool false), .lit (.bool true)]) [] := h
          refine (fmD u0 p fs bh ct (193 :: byteI ((d.length : Int) + 1) :: byteI p.n :: (d ++ bh)) (d ++ bh) ?_).cast rfl rfl (by simp [w]) rfl
          refine ⟨w, fun _ => ⟨by simp; omega, w, trivial⟩, .inl ⟨by simp, by simp⟩, by simp, fun _ => ⟨by simp, w, trivial⟩, hk, m, h', hs, lo, hz, trivial⟩
        · have l1 := beL_len ((d.length : Int) + 4) (z := 4) (by omega)
          have l2 := beL_len (p.n : Int) (z := 4) (by omega)
          have hdl : d.length ≤ 262204000 := by simp only [List.length_cons, List.length_append] at hl; omega
          have m := mapYes4 u0 p.n d bh hd hn5 hnd (by simp only [List.length_append]; omega)
          have h' : ACalls Tryd.prog (gR u0) 15 [hAV p fs bh ct] [] (.tup [.bts (209 :: (beL ((d.length : Int) + 4) 4 ++ (beL p.n 4 ++ (d ++ bh)))), .bts bh, .lit (.bool false), .lit (.bool true)]) [] := by
            have e : byteI 209 :: (beL ((d.length : Int) + 4) 4 ++ (beL p.n 4 ++ d)) ++ bh = 209 :: (beL ((d.length : Int) + 4) 4 ++ (beL p.n 4 ++ (d ++ bh))) := by
              simp only [List.cons_append, List.append_assoc]; rfl
            rw [← e]; exact h
          have hx : (209 :: (beL ((d.length : Int) + 4) 4 ++ (beL p.n 4 ++ (d ++ bh)))).drop 9 = d ++ bh := by
            rw [show (9 : Nat) = 8 + 1 from rfl, List.drop_succ_cons, ← List.append_assoc, List.drop_append, List.drop_eq_nil_of_le (by rw [List.length_append]; omega), List.nil_append, show 8 - (beL ((d.length : Int) + 4) 4 ++ beL p.n 4).length = 0 by rw [List.length_append]; omega]
            rfl
          refine (fmE u0 p fs bh ct (209 :: (beL ((d.length : Int) + 4) 4 ++ (beL p.n 4 ++ (d ++ bh)))) (d ++ bh) ?_).cast rfl rfl (by rw [hx]; simp [w]) rfl
          refine ⟨w, fun _ => ⟨by simp only [List.length_cons, List.length_append]; omega, w, trivial⟩, ⟨by simp, by simp⟩, by simp, fun _ => ⟨by simp, w, trivial⟩, hk, m, h', hs, lo, hz, trivial⟩
      · subst he
        refine fmC u0 p fs bh ct (byteI c :: x ++ bh) ⟨hk, mapNo u0 _ _ (by show (byteI c :: (x ++ bh)).length ≤ _; simp only [List.length_cons, List.length_append] at hl ⊢; omega) ?_, h, hs, lo, hz, trivial⟩
        rw [hbc]
        refine fun hc => hk ?_
        rw [← ck]; rcases hc with rfl | rfl <;> rfl
  · exact fmZ u0 p fs bh ct ⟨zzNo (gR u0) p fs bh ct hb, trivial⟩
end Go.Ax
