/-
  laws.FnReadArrayBinary: what the function computes.
-/
import Derived.Test.YtbdfpnhcincimaaDoorVaU
import Derived.Test.YtbdfpnhcincimaaDoorWk
import Derived.Test.YtbdfpnhcincimaaDoorRbBinary
import Derived.Test.YtbdfpnhcincimaaDoorRrBinary
import Derived.Test.YtbdfpnhcincimaaDoorRlBinary
set_option linter.unusedVariables false
set_option linter.unusedSimpArgs false
set_option maxRecDepth 100000
set_option maxHeartbeats 1000000
namespace Go.Ax
open Go.Proofs
theorem idle75 : IdleD Tryd.prog 75 := idle_of2 (fn := Tryd.f75) Tryd.func75 (by kernel_rfl) (by kernel_rfl) (fun ρ => by kernel_rfl) (by kernel_rfl)

theorem drop1 {bs z : List UInt8} {y : UInt8} {p : Nat} (h : bs.drop p = y :: z) : bs.drop (p + 1) = z := by
  rw [← List.drop_drop, h]; rfl
theorem dropn {bs x z : List UInt8} {p q : Nat} (h : bs.drop p = x ++ z) (hq : q = x.length) : bs.drop (p + q) = z := by
  subst hq; rw [← List.drop_drop, h]; exact List.drop_left
theorem dlen {bs z : List UInt8} {p : Nat} (h : bs.drop p = z) : bs.length - p = z.length := by rw [← h, List.length_drop]

/-- How an element stands: behind its length, of one byte or of four. -/
def bE (c : Int) (d : Nat → List UInt8) (j : Nat) : List UInt8 := if c = 160 then byteI (d j).length :: d j else beL (d j).length 4 ++ d j
theorem beN_dr (bs : List UInt8) (off : Nat) : ∀ k, beN bs off k = beN (bs.drop off) 0 k
  | 0 => rfl
  | k + 1 => by
    rw [beN, beN, beN_dr bs off k, List.getD_eq_getElem?_getD, List.getD_eq_getElem?_getD, Nat.zero_add, List.getElem?_drop]

theorem binStep160 (u0 : Nat) (bs : List UInt8) (p n i : Nat) (d : Nat → List UInt8) (r : List UInt8) (hn : n ≤ 1000) (hi : i < n) (hl : bs.length ≤ 400000000) (hp : p < bs.length) (h : bs.drop p = byteI (d i).length :: (d i ++ r)) (hd0 : 0 < (d i).length) (hdl : (d i).length ≤ 255) :
    CodeC Tryd.prog (gR u0) 123 (loopAt Tryd.f76 0) [(0, .ptr 0 0), (1, .ptr 1 0), (7, .own 3 0 n (some n)), (58, iL n), (59, iL i)] [.cells 127 1 [nL], .cells 78 2 [.own 2 0 bs.length none, iL p], .bytes 5 bs, .cells 26 1 (Fill.bins d n i)] .normal [(0, .ptr 0 0), (1, .ptr 1 0), (7, .own 3 0 n (some n)), (58, iL n), (59, iL (i + 1 : Nat))] [.cells 127 1 [nL], .cells 78 2 [.own 2 0 bs.length none, iL (p + 1 + (d i).length : Nat)], .bytes 5 bs, .cells 26 1 (Fill.bins d n (i + 1))] := by
  have b1 : ((byteI ((d i).length : Int)).toNat : Int) = (d i).length := byteI_eq (by omega) (by omega)
  have hd := drop1 h
  have rb := rby u0 bs (by omega) p (by omega) ⟨by omega, by omega, trivial⟩
  rw [at_drop h, Option.getD_some, b1] at rb
  have hl2 := dlen h
  rw [List.length_cons, List.length_append] at hl2
  have hdat : (bs.drop (p + 1)).take (d i).length = d i := by rw [hd]; exact List.take_left
  have nx := nxt u0 bs (by omega) (p + 1) (d i).length (by omega) (by omega) ⟨by omega, by omega, trivial⟩
  have nx' : AR u0 95 [.ptr 0 0, iL (d i).length] (bK bs ((p + 1 : Nat) : Int)) (.tup [.own 1 (p + 1) (d i).length none, bL true]) (bK bs ((p + 1 + (d i).length : Nat) : Int)) :=
    nx.cast rfl rfl (by rw [show ((((p + 1 : Nat) : Int) + ((d i).length : Int)).toNat - (p + 1)) = (d i).length by omega]) rfl
  have st := binaryL160 u0 bs p n i (d i).length d ⟨by simp; omega, by omega, by rw [hdat]; omega, nx', by rw [wrap64 (by omega) (by omega)]; exact leAll_refl _, rb, by simp; omega, trivial⟩
  have e : AV.renL (idxIn [0, 1, 2, 3, 1668] 0) (setL (Fill.bins d n i) (0 + (i : Int).toNat * 1) [AV.own 1668 0 (d i).length none]) = setL (Fill.bins d n i) i [AV.own 4 0 (d i).length none] := by
    rw [Fill.renL_set1, Fill.bins_ren, Int.toNat_natCast, Nat.zero_add, Nat.mul_one]; rfl
  rw [hdat, wrapI i (by omega), e] at st
  have st2 := (st.freezeOut 4 rfl rfl).only [0, 1, 2, 3] rfl
  refine st2.cast rfl rfl rfl ?_
  have e3 : AV.renL (idxIn [0, 1, 2, 3] 0) (AV.frzL 4 (.bytes 5 (d i)) (setL (Fill.bins d n i) i [AV.own 4 0 (d i).length none])) = Fill.bins d n (i + 1) := by
    rw [Fill.frzL_set1, Fill.bins_frz, Fill.renL_set1, Fill.bins_ren]
    show setL _ i [.bts (((d i).drop 0).take (d i).length)] = _
    rw [List.drop_zero, List.take_length, Fill.bins_set]
  exact congrArg (fun x => ([.cells 127 1 [nL], .cells 78 2 [.own 2 0 bs.length none, iL (p + 1 + (d i).length : Nat)], .bytes 5 bs, .cells 26 1 (x)] : List Row)) e3

theorem binLoop160 (u0 : Nat) (bs : List UInt8) (n : Nat) (d : Nat → List UInt8) (r : List UInt8) (hn : n ≤ 1000) (hl : bs.length ≤ 400000000) (hd0 : ∀ j, j < n → 0 < (d j).length) (hdl : ∀ j, j < n → (d j).length ≤ 255) :
    ∀ (m i p : Nat), n - i = m → i ≤ n → bs.drop p = catM (bE 160 d) i m ++ r → LoopC Tryd.prog (gR u0) 123 (loopAt Tryd.f76 0) [(0, .ptr 0 0), (1, .ptr 1 0), (7, .own 3 0 n (some n)), (58, iL n), (59, iL i)] [.cells 127 1 [nL], .cells 78 2 [.own 2 0 bs.length none, iL p], .bytes 5 bs, .cells 26 1 (Fill.bins d n i)] (.exit 1) [(0, .ptr 0 0), (7, .own 3 0 n (some n))] [.cells 127 1 [nL], .cells 78 2 [.own 2 0 bs.length none, iL (p + (catM (bE 160 d) i m).length : Nat)], .bytes 5 bs, .cells 26 1 (Fill.bins d n n)]
  | 0, i, p, hm, hi, h => by
    obtain rfl : i = n := by omega
    exact LoopC.exit ((binaryX160 u0 bs p i i 0 d ⟨by simp, trivial⟩).cast rfl rfl rfl (by rw [Fill.bins_ren]; rfl)) (by simp)
  | m + 1, i, p, hm, hi, h => by
    rw [catM] at h ⊢
    have hE : bE 160 d i = byteI (d i).length :: d i := rfl
    have h' : bs.drop p = byteI (d i).length :: (d i ++ (catM (bE 160 d) (i + 1) m ++ r)) := by rw [h, hE]; simp only [List.cons_append, List.append_assoc]
    have l4 : (beL ((d i).length : Int) 4).length = 4 := by have := beL_len ((d i).length : Int) (z := 4) (by omega); omega
    have hEl : (bE 160 d i).length = 1 + (d i).length := by rw [hE]; rw [List.length_cons]; omega
    have hp := dlen h
    rw [List.length_append, List.length_append, hEl] at hp
    have st := binStep160 u0 bs p n i d _ hn (by omega) hl (by omega) h' (hd0 i (by omega)) (hdl i (by omega))
    have nxt := binLoop160 u0 bs n d r hn hl hd0 hdl m (i + 1) (p + 1 + (d i).length) (by omega) (by omega) (by rw [Nat.add_assoc, dropn (q := 1 + (d i).length) (x := bE 160 d i) (by rw [h, List.append_assoc]) hEl.symm])
    rw [show p + 1 + (d i).length + (catM (bE 160 d) (i + 1) m).length = p + (bE 160 d i ++ catM (bE 160 d) (i + 1) m).length by rw [List.length_append, hEl]; omega] at nxt
    exact LoopC.step st nxt

theorem binaryUG160 (u0 n k : Nat) (bs : List UInt8) (d : Nat → List UInt8) (r : List UInt8) (h0 : 0 < n) (hn : n ≤ 1000) (hl : bs.length ≤ 400000000) (hk : k ≤ 9) (hh : HdYes u0 bs n k) (h : bs.drop k = 160 :: (catM (bE 160 d) 0 n ++ r)) (h2 : n * 2 ≤ bs.length - k) (hd0 : ∀ j, j < n → 0 < (d j).length) (hdl : ∀ j, j < n → (d j).length ≤ 255) :
    AR u0 76 [.ptr 0 0, .ptr 1 0] [.cells 127 1 [nL], bF 2 bs 0, .bytes 5 bs] nI [.cells 127 1 [.ro 1 n (fun j => [.bts (d j)])], .cells 78 2 [.own 2 0 bs.length none, iL ((k + 1 + (catM (bE 160 d) 0 n).length : Nat) : Int)], .bytes 5 bs] := by
  have hp := dlen h
  rw [List.length_cons] at hp
  have t := tyk u0 bs (by omega) k (by omega) ⟨by omega, by omega, trivial⟩
  rw [at_drop h] at t
  have lp := (binLoop160 u0 bs n d r hn hl hd0 hdl n 0 (k + 1) rfl (by omega) (drop1 h)).code
  have z : repL [nL] n = Fill.bins d n 0 := Fill.bins_zero d n
  have a := binaryG160 u0 bs hl k hk n h0 hn d _ ⟨by rw [z]; exact lp, by rw [z, Fill.bins_ren]; exact RowLe.refl _, t, ⟨by omega, by omega⟩, h0, by omega, hh, trivial⟩
  have a2 := (a.freezeRet 3 rfl (by show AV.closedL (Fill.bins d n n) = true; simp)).only [0, 1, 2] rfl
  exact a2.leOut ⟨RowLe_cell (Le_ro fun i hi => Fill.bins_slice d n i hi), RowLe.refl _, RowLe.refl _, trivial⟩

theorem binStep176 (u0 : Nat) (bs : List UInt8) (p n i : Nat) (d : Nat → List UInt8) (r : List UInt8) (hn : n ≤ 1000) (hi : i < n) (hl : bs.length ≤ 400000000) (hp : p < bs.length) (h : bs.drop p = beL (d i).length 4 ++ (d i ++ r)) (hd0 : 0 < (d i).length) (hdl : (d i).length ≤ 131072) :
    CodeC Tryd.prog (gR u0) 123 (loopAt Tryd.f76 1) [(0, .ptr 0 0), (1, .ptr 1 0), (7, .own 3 0 n (some n)), (89, iL n), (90, iL i)] [.cells 127 1 [nL], .cells 78 2 [.own 2 0 bs.length none, iL p], .bytes 5 bs, .cells 26 1 (Fill.bins d n i)] .normal [(0, .ptr 0 0), (1, .ptr 1 0), (7, .own 3 0 n (some n)), (89, iL n), (90, iL (i + 1 : Nat))] [.cells 127 1 [nL], .cells 78 2 [.own 2 0 bs.length none, iL (p + 4 + (d i).length : Nat)], .bytes 5 bs, .cells 26 1 (Fill.bins d n (i + 1))] := by
  have l4 : (beL ((d i).length : Int) 4).length = 4 := by have := beL_len ((d i).length : Int) (z := 4) (by omega); omega
  have hd := dropn h (q := 4) (by omega)
  have hl2 := dlen h
  rw [List.length_append, List.length_append, l4] at hl2
  have n4 := (nxt u0 bs (by omega) p 4 (by omega) (by omega) ⟨by omega, by omega, trivial⟩).cast (args' := [.ptr 0 0, iL 4]) (H0 := bK bs p) (ret' := .tup [.own 1 p 4 none, bL true]) (H1 := bK bs ((p + 4 : Nat) : Int)) rfl rfl (by rw [show (((p : Int) + ((4 : Nat) : Int)).toNat - p) = 4 by omega]) rfl
  have be := be4A (gR u0) bs p (by omega)
  have hb : (beN bs p 4 : Int) = (d i).length := by
    rw [beN_dr, h]
    have g := beN_4 0 ((d i).length : Int) (d i ++ r) (by omega) (by omega)
    rw [beN_dr] at g
    exact g
  rw [hb] at be
  have hdat : (bs.drop (p + 4)).take (d i).length = d i := by rw [hd]; exact List.take_left
  have nx := nxt u0 bs (by omega) (p + 4) (d i).length (by omega) (by omega) ⟨by omega, by omega, trivial⟩
  have nx' : AR u0 95 [.ptr 0 0, iL (d i).length] (bK bs ((p + 4 : Nat) : Int)) (.tup [.own 1 (p + 4) (d i).length none, bL true]) (bK bs ((p + 4 + (d i).length : Nat) : Int)) :=
    nx.cast rfl rfl (by rw [show ((((p + 4 : Nat) : Int) + ((d i).length : Int)).toNat - (p + 4)) = (d i).length by omega]) rfl
  have st := binaryL176 u0 bs p n i (d i).length d ⟨by simp; omega, by omega, by rw [hdat]; omega, nx', by rw [wrap64 (by omega) (by omega)]; exact leAll_refl _, be, n4, by simp; omega, trivial⟩
  have e : AV.renL (idxIn [0, 1, 2, 3, 1924] 0) (setL (Fill.bins d n i) (0 + (i : Int).toNat * 1) [AV.own 1924 0 (d i).length none]) = setL (Fill.bins d n i) i [AV.own 4 0 (d i).length none] := by
    rw [Fill.renL_set1, Fill.bins_ren, Int.toNat_natCast, Nat.zero_add, Nat.mul_one]; rfl
  rw [hdat, wrapI i (by omega), e] at st
  have st2 := (st.freezeOut 4 rfl rfl).only [0, 1, 2, 3] rfl
  refine st2.cast rfl rfl rfl ?_
  have e3 : AV.renL (idxIn [0, 1, 2, 3] 0) (AV.frzL 4 (.bytes 5 (d i)) (setL (Fill.bins d n i) i [AV.own 4 0 (d i).length none])) = Fill.bins d n (i + 1) := by
    rw [Fill.frzL_set1, Fill.bins_frz, Fill.renL_set1, Fill.bins_ren]
    show setL _ i [.bts (((d i).drop 0).take (d i).length)] = _
    rw [List.drop_zero, List.take_length, Fill.bins_set]
  exact congrArg (fun x => ([.cells 127 1 [nL], .cells 78 2 [.own 2 0 bs.length none, iL (p + 4 + (d i).length : Nat)], .bytes 5 bs, .cells 26 1 (x)] : List Row)) e3

theorem binLoop176 (u0 : Nat) (bs : List UInt8) (n : Nat) (d : Nat → List UInt8) (r : List UInt8) (hn : n ≤ 1000) (hl : bs.length ≤ 400000000) (hd0 : ∀ j, j < n → 0 < (d j).length) (hdl : ∀ j, j < n → (d j).length ≤ 131072) :
    ∀ (m i p : Nat), n - i = m → i ≤ n → bs.drop p = catM (bE 176 d) i m ++ r → LoopC Tryd.prog (gR u0) 123 (loopAt Tryd.f76 1) [(0, .ptr 0 0), (1, .ptr 1 0), (7, .own 3 0 n (some n)), (89, iL n), (90, iL i)] [.cells 127 1 [nL], .cells 78 2 [.own 2 0 bs.length none, iL p], .bytes 5 bs, .cells 26 1 (Fill.bins d n i)] (.exit 3) [(0, .ptr 0 0), (7, .own 3 0 n (some n))] [.cells 127 1 [nL], .cells 78 2 [.own 2 0 bs.length none, iL (p + (catM (bE 176 d) i m).length : Nat)], .bytes 5 bs, .cells 26 1 (Fill.bins d n n)]
  | 0, i, p, hm, hi, h => by
    obtain rfl : i = n := by omega
    exact LoopC.exit ((binaryX176 u0 bs p i i 0 d ⟨by simp, trivial⟩).cast rfl rfl rfl (by rw [Fill.bins_ren]; rfl)) (by simp)
  | m + 1, i, p, hm, hi, h => by
    rw [catM] at h ⊢
    have hE : bE 176 d i = beL (d i).length 4 ++ d i := rfl
    have h' : bs.drop p = beL (d i).length 4 ++ (d i ++ (catM (bE 176 d) (i + 1) m ++ r)) := by rw [h, hE]; simp only [List.cons_append, List.append_assoc]
    have l4 : (beL ((d i).length : Int) 4).length = 4 := by have := beL_len ((d i).length : Int) (z := 4) (by omega); omega
    have hEl : (bE 176 d i).length = 4 + (d i).length := by rw [hE]; rw [List.length_append, l4]
    have hp := dlen h
    rw [List.length_append, List.length_append, hEl] at hp
    have st := binStep176 u0 bs p n i d _ hn (by omega) hl (by omega) h' (hd0 i (by omega)) (hdl i (by omega))
    have nxt := binLoop176 u0 bs n d r hn hl hd0 hdl m (i + 1) (p + 4 + (d i).length) (by omega) (by omega) (by rw [Nat.add_assoc, dropn (q := 4 + (d i).length) (x := bE 176 d i) (by rw [h, List.append_assoc]) hEl.symm])
    rw [show p + 4 + (d i).length + (catM (bE 176 d) (i + 1) m).length = p + (bE 176 d i ++ catM (bE 176 d) (i + 1) m).length by rw [List.length_append, hEl]; omega] at nxt
    exact LoopC.step st nxt

theorem binaryUG176 (u0 n k : Nat) (bs : List UInt8) (d : Nat → List UInt8) (r : List UInt8) (h0 : 0 < n) (hn : n ≤ 1000) (hl : bs.length ≤ 400000000) (hk : k ≤ 9) (hh : HdYes u0 bs n k) (h : bs.drop k = 176 :: (catM (bE 176 d) 0 n ++ r)) (h2 : n * 2 ≤ bs.length - k) (hd0 : ∀ j, j < n → 0 < (d j).length) (hdl : ∀ j, j < n → (d j).length ≤ 131072) :
    AR u0 76 [.ptr 0 0, .ptr 1 0] [.cells 127 1 [nL], bF 2 bs 0, .bytes 5 bs] nI [.cells 127 1 [.ro 1 n (fun j => [.bts (d j)])], .cells 78 2 [.own 2 0 bs.length none, iL ((k + 1 + (catM (bE 176 d) 0 n).length : Nat) : Int)], .bytes 5 bs] := by
  have hp := dlen h
  rw [List.length_cons] at hp
  have t := tyk u0 bs (by omega) k (by omega) ⟨by omega, by omega, trivial⟩
  rw [at_drop h] at t
  have lp := (binLoop176 u0 bs n d r hn hl hd0 hdl n 0 (k + 1) rfl (by omega) (drop1 h)).code
  have z : repL [nL] n = Fill.bins d n 0 := Fill.bins_zero d n
  have a := binaryG176 u0 bs hl k hk n h0 hn d _ ⟨by rw [z]; exact lp, by rw [z, Fill.bins_ren]; exact RowLe.refl _, t, ⟨by omega, by omega⟩, h0, by omega, hh, trivial⟩
  have a2 := (a.freezeRet 3 rfl (by show AV.closedL (Fill.bins d n n) = true; simp)).only [0, 1, 2] rfl
  exact a2.leOut ⟨RowLe_cell (Le_ro fun i hi => Fill.bins_slice d n i hi), RowLe.refl _, RowLe.refl _, trivial⟩

theorem binaryUZ (u0 k : Nat) (bs z : List UInt8) (c : UInt8) (hc : c = 160 ∨ c = 176) (hl : bs.length ≤ 400000000) (hk : k ≤ 9) (hh : HdYes u0 bs 0 k) (h : bs.drop k = c :: z) :
    AR u0 76 [.ptr 0 0, .ptr 1 0] [.cells 127 1 [nL], bF 2 bs 0, .bytes 5 bs] nI [.cells 127 1 [nL], .cells 78 2 [.own 2 0 bs.length none, iL ((k + 1 : Nat) : Int)], .bytes 5 bs] := by
  have hp := dlen h
  rw [List.length_cons] at hp
  have t := tyk u0 bs (by omega) k (by omega) ⟨by omega, by omega, trivial⟩
  rw [at_drop h] at t
  rcases hc with rfl | rfl
  · exact binaryZ160 u0 bs hl k hk ⟨t, by omega, hh, trivial⟩
  · exact binaryZ176 u0 bs hl k hk ⟨t, by omega, hh, trivial⟩

theorem binaryNo (u0 : Nat) (bs : List UInt8) (hl : bs.length ≤ 400000000) (h : HdNo u0 bs ∨ ∃ n k, 0 < n ∧ n ≤ 1000 ∧ k ≤ 9 ∧ HdYes u0 bs n k ∧ (¬(((bs[k]?.getD 0).toNat : Nat) : Int) = 160 ∧ ¬(((bs[k]?.getD 0).toNat : Nat) : Int) = 176) ∧ k + 1 ≤ bs.length) :
    AR u0 37 [.bts bs] [] (.tup [nL, nL, bL false]) [] := by
  have key : ∃ t k' : Nat, AR u0 76 [.ptr 0 0, .ptr 1 0] [.cells 127 1 [nL], bF 2 bs 0, .bytes 5 bs] (.ifc t .dead) [.cells 127 1 [nL], .cells 78 2 [.own 2 0 bs.length none, iL k'], .bytes 5 bs] := by
    rcases h with ⟨t, k, h⟩ | ⟨n, k, h0, hn, hk, hh, hc, he⟩
    · have a := ACalls.le h (leAll_refl _) (Le.refl _) rfl
      exact ⟨t, k, binaryN u0 bs k t ⟨a, trivial⟩⟩
    · by_cases h2 : n * 2 ≤ bs.length - k
      · have t := tyk u0 bs (by omega) k (by omega) ⟨by omega, by omega, trivial⟩
        have a := binaryT u0 bs hl k hk n h0 hn _ ⟨hc.2, hc.1, t, ⟨by omega, by omega⟩, h0, by omega, hh, trivial⟩
        exact ⟨162, k + 1, (a.le (ret' := .ifc 162 .dead) (leAll_refl _) (Le_ifcd _ _) rfl).only [0, 1, 2] rfl⟩
      · have a := binaryF u0 bs hl k hk n h0 hn ⟨by omega, hh, trivial⟩
        exact ⟨162, k, (a.le (ret' := .ifc 162 .dead) (leAll_refl _) (Le_ifcd _ _) rfl).only [0, 1, 2] rfl⟩
  obtain ⟨t, k, key⟩ := key
  exact binaryRN u0 bs (by omega) k t ⟨key, by omega, idle75, trivial⟩
theorem binaryRLoop (u0 : Nat) (bs : List UInt8) (k n : Nat) (g : Nat → List UInt8) (h0 : 0 < n) (hn : n ≤ 1000000) : CodeC Tryd.prog (gR u0) 34 (.loop (loopAt Tryd.f37 0))
    [(2, .ptr 0 0), (3, .ptr 1 0), (4, .ptr 2 0), (5, .ptr 3 0), (7, nI), (15, .ro 1 n (fun j => [.bts (g j)])), (16, iL n), (17, iL 0)] [.cells 70 1 [nL], .cells 26 1 [nL], .cells 4 1 [bL false], .cells 78 2 [.own 4 0 bs.length none, iL k], .bytes 5 bs] (.exit 0)
    [(2, .ptr 0 0), (3, .ptr 1 0), (4, .ptr 2 0), (5, .ptr 3 0), (7, nI)] [.cells 70 1 [.own 5 0 n none], .cells 26 1 [nL], .cells 4 1 [bL false], .cells 78 2 [.own 4 0 bs.length none, iL k], .bytes 5 bs, .cells 9 1 (Fill.strs (fun j => ⟨(g j).toArray⟩) n n)] :=
  growNil (P := Tryd.prog) (G := gR u0) (k := 5) (n := 34) (c := loopAt Tryd.f37 0) (N := n) (ex := .exit 0)
    (fun i _ => [(2, .ptr 0 0), (3, .ptr 1 0), (4, .ptr 2 0), (5, .ptr 3 0), (7, nI), (15, .ro 1 n (fun j => [.bts (g j)])), (16, iL n), (17, iL i)])
    (fun _ => [(2, .ptr 0 0), (3, .ptr 1 0), (4, .ptr 2 0), (5, .ptr 3 0), (7, nI)])
    (fun w => [.cells 70 1 [w], .cells 26 1 [nL], .cells 4 1 [bL false], .cells 78 2 [.own 4 0 bs.length none, iL k], .bytes 5 bs])
    (fun i => .cells 9 1 (Fill.strs (fun j => ⟨(g j).toArray⟩) i i)) (fun i => i) (by simp) [some 0, some 1, some 2, some 3, some 4, some 6] nL h0
    (binaryR0 u0 bs k n 0 g ⟨by omega, by simp; omega, trivial⟩)
    (fun i hi0 hi => by
      have st := binaryRL u0 bs k n i g ⟨⟨by omega, by omega, rfl⟩, by omega, by simp; omega, trivial⟩
      rw [wrapI i (by omega), Int.toNat_natCast, Fill.strs_take, Fill.strs_succ (fun j => ⟨(g j).toArray⟩), Fill.strs_ren] at st
      exact st)
    ((binaryRX u0 bs k n n g ⟨by simp, trivial⟩).cast rfl rfl rfl (by rw [Fill.strs_ren]; rfl))
    (fun i hi => rfl) (fun i hi => rfl)
    (fun i hi => congrArg (fun x => [Row.cells 70 1 [.own 5 0 (i + 1) none], .cells 26 1 [nL], .cells 4 1 [bL false], .cells 78 2 [.own 4 0 bs.length none, iL k], .bytes 5 bs, .cells 9 1 x]) (Fill.strs_ren _ _ _ _))
    [some 0, some 1, some 2, some 3, some 4, some 5] rfl rfl rfl rfl
    (fun i => congrArg (fun x => [Row.cells 70 1 [.own 5 0 i none], .cells 26 1 [nL], .cells 4 1 [bL false], .cells 78 2 [.own 4 0 bs.length none, iL k], .bytes 5 bs, .cells 9 1 x]) (Fill.strs_ren _ _ _ _)) rfl

theorem restOf (bs r : List UInt8) (k : Nat) (h : bs.drop k = r) : Le (.bts (((bs.drop k).drop 0).take (bs.length - k))) (.bts r) := by
  subst h
  rw [show bs.length - k = (bs.drop k).length by simp]
  exact Le_take _

theorem binaryYes160 (u0 n k : Nat) (bs : List UInt8) (d : Nat → List UInt8) (r : List UInt8) (h0 : 0 < n) (hn : n ≤ 1000) (hl : bs.length ≤ 400000000) (hk : k ≤ 9) (hh : HdYes u0 bs n k) (h : bs.drop k = 160 :: (catM (bE 160 d) 0 n ++ r)) (h2 : n * 2 ≤ bs.length - k) (hd0 : ∀ j, j < n → 0 < (d j).length) (hdl : ∀ j, j < n → (d j).length ≤ 255) :
    AR u0 37 [.bts bs] [] (.tup [.ro 1 n (fun j => [.lit (.string ⟨(d j).toArray⟩)]), .bts r, bL true]) [] := by
  have hp := dlen h
  rw [List.length_cons, List.length_append] at hp
  have a := binaryRG u0 bs (by omega) (k + 1 + (catM (bE 160 d) 0 n).length) n h0 d ⟨by omega, by omega, binaryRLoop u0 bs (k + 1 + (catM (bE 160 d) 0 n).length) n d h0 (by omega), binaryUG160 u0 n k bs d r h0 hn hl hk hh h h2 hd0 hdl, by omega, idle75, trivial⟩
  have a2 := ((a.freezeRet 0 rfl (by show AV.closedL (Fill.strs _ n n) = true; simp)).freezeRet 1 rfl rfl).only [] rfl
  exact a2.le (leAll_refl _) (Le_tup ⟨Le_ro fun i hi => Fill.strs_slice (fun j => ⟨(d j).toArray⟩) n i hi, restOf bs r _ (dropn (drop1 h) rfl), Le.refl _, trivial⟩) rfl

theorem binaryYes176 (u0 n k : Nat) (bs : List UInt8) (d : Nat → List UInt8) (r : List UInt8) (h0 : 0 < n) (hn : n ≤ 1000) (hl : bs.length ≤ 400000000) (hk : k ≤ 9) (hh : HdYes u0 bs n k) (h : bs.drop k = 176 :: (catM (bE 176 d) 0 n ++ r)) (h2 : n * 2 ≤ bs.length - k) (hd0 : ∀ j, j < n → 0 < (d j).length) (hdl : ∀ j, j < n → (d j).length ≤ 131072) :
    AR u0 37 [.bts bs] [] (.tup [.ro 1 n (fun j => [.lit (.string ⟨(d j).toArray⟩)]), .bts r, bL true]) [] := by
  have hp := dlen h
  rw [List.length_cons, List.length_append] at hp
  have a := binaryRG u0 bs (by omega) (k + 1 + (catM (bE 176 d) 0 n).length) n h0 d ⟨by omega, by omega, binaryRLoop u0 bs (k + 1 + (catM (bE 176 d) 0 n).length) n d h0 (by omega), binaryUG176 u0 n k bs d r h0 hn hl hk hh h h2 hd0 hdl, by omega, idle75, trivial⟩
  have a2 := ((a.freezeRet 0 rfl (by show AV.closedL (Fill.strs _ n n) = true; simp)).freezeRet 1 rfl rfl).only [] rfl
  exact a2.le (leAll_refl _) (Le_tup ⟨Le_ro fun i hi => Fill.strs_slice (fun j => ⟨(d j).toArray⟩) n i hi, restOf bs r _ (dropn (drop1 h) rfl), Le.refl _, trivial⟩) rfl

theorem binaryNil (u0 k : Nat) (bs r : List UInt8) (c : UInt8) (hc : c = 160 ∨ c = 176) (hl : bs.length ≤ 400000000) (hk : k ≤ 9) (hh : HdYes u0 bs 0 k) (h : bs.drop k = c :: r) :
    AR u0 37 [.bts bs] [] (.tup [nL, .bts r, bL true]) [] := by
  have hp := dlen h
  rw [List.length_cons] at hp
  have a := binaryRZ u0 bs (by omega) (k + 1) ⟨by omega, by omega, binaryUZ u0 k bs r c hc hl hk hh h, by omega, idle75, trivial⟩
  have a2 := (a.freezeRet 0 rfl rfl).only [] rfl
  exact a2.le (leAll_refl _) (Le_tup ⟨Le.refl _, restOf bs r (k + 1) (drop1 h), Le.refl _, trivial⟩) rfl

/-! ### The law's own loop -/
theorem binaryLawLoop (u0 : Nat) (bh y : List UInt8) (n : Nat) (f : Nat → ValT) (g : Nat → ByteArray) (h0 : 0 < n) (hn : n ≤ 1000000) : CodeC Tryd.prog (gR u0) 121 (.loop (loopAt Tryd.f11 0))
    [(8, bL true), (10, .bts bh), (13, kA n f), (16, .bts y), (17, bL true), (18, nL), (95, .ro 1 n (fun j => [.lit (.string (g j))])), (96, iL n), (97, iL 0)] [] (.exit 0)
    [(8, bL true), (10, .bts bh), (13, kA n f), (16, .bts y), (17, bL true), (18, .own 0 0 n none)] [.cells 25 6 (Fill.texts 18 g n)] :=
  growNil (P := Tryd.prog) (G := gR u0) (k := 0) (n := 121) (c := loopAt Tryd.f11 0) (N := n) (ex := .exit 0)
    (fun i w => [(8, bL true), (10, .bts bh), (13, kA n f), (16, .bts y), (17, bL true), (18, w), (95, .ro 1 n (fun j => [.lit (.string (g j))])), (96, iL n), (97, iL i)])
    (fun w => [(8, bL true), (10, .bts bh), (13, kA n f), (16, .bts y), (17, bL true), (18, w)])
    (fun w => []) (fun i => .cells 25 6 (Fill.texts 18 g i)) (fun i => i) (by simp) [some 1] nL h0
    (binaryf0 u0 bh y n f 0 g ⟨by omega, by simp; omega, trivial⟩)
    (fun i hi0 hi => by
      have st := binaryfL u0 bh y n f i g ⟨⟨by omega, by omega, rfl⟩, by omega, by simp; omega, trivial⟩
      rw [wrapI i (by omega), Int.toNat_natCast, Fill.texts_take, Fill.texts_succ 18 g, Fill.texts_ren] at st
      exact st)
    ((binaryfX u0 bh y n f n g ⟨by simp, trivial⟩).cast rfl rfl rfl (by rw [Fill.texts_ren]; rfl))
    (fun i hi => rfl) (fun i hi => rfl)
    (fun i hi => congrArg (fun x => [Row.cells 25 6 x]) (Fill.texts_ren _ _ _ _))
    [some 0] rfl rfl rfl rfl
    (fun i => congrArg (fun x => [Row.cells 25 6 x]) (Fill.texts_ren _ _ _ _)) rfl


theorem binarySample (u0 : Nat) : AR u0 36 [.own 0 0 1 none] [.cells 9 1 [.lit (.string ⟨#[97]⟩)]] (.tup [.bts [224, 4, 1, 160, 1, 97], bL true]) [.cells 9 1 [.lit (.string ⟨#[97]⟩)]] := by
  have i38 : IdleD Tryd.prog 38 := idle_of2 (fn := Tryd.f38) Tryd.func38 (by kernel_rfl) (by kernel_rfl) (fun ρ => by kernel_rfl) (by kernel_rfl)
  have a := binaryW u0 ⟨i38, trivial⟩
  exact (a.freezeRet 1 rfl rfl).only [0] rfl

theorem binaryOne (u0 : Nat) : AR u0 37 [.bts [224, 4, 1, 160, 1, 97]] [] (.tup [.ro 1 1 (fun _ => [.lit (.string ⟨#[97]⟩)]), .bts [], bL true]) [] := by
  have hh : HdYes u0 [224, 4, 1, 160, 1, 97] 1 3 := (hd8 u0 1 [160, 1, 97] [] (by decide) (by decide) (by decide)).1 (by decide)
  have y := binaryYes160 u0 1 3 [224, 4, 1, 160, 1, 97] (fun _ => [97]) [] (by decide) (by decide) (by decide) (by decide) hh rfl (by decide) (fun j _ => by decide) (fun j _ => by decide)
  exact y.le (leAll_refl _) (Le_tup ⟨Le_ro fun i hi => rfl, Le.refl _, Le.refl _, trivial⟩) rfl

theorem catM_ge (ds : Nat → List UInt8) (w : Nat) : ∀ (m i : Nat), (∀ j, i ≤ j → j < i + m → w ≤ (ds j).length) → w * m ≤ (catM ds i m).length
  | 0, i, h => by simp
  | m + 1, i, h => by
    rw [catM, List.length_append, Nat.mul_succ]
    have := catM_ge ds w m (i + 1) (fun j a b => h j (by omega) (by omega))
    have := h i (by omega) (by omega)
    omega

/-- An element's bytes. -/
def bD (f : Nat → ValT) (j : Nat) : List UInt8 := (f j).text.data.toList

/-- What such an array's elements are. -/
theorem binaryEls {n : Nat} {f : Nat → ValT} {o : Int} {b : List UInt8} (h : ArrF n f o b) (hn : n ≤ 1000) (hf : ∀ i, i < n → (f i).kind = 18 ∧ (f i).nd = 0) (ho : n = 0 → o = 18) :
    (b = 160 :: catM (bE 160 (bD f)) 0 n ∧ ∀ j, j < n → (bD f j).length ≤ 255) ∨ b = 176 :: catM (bE 176 (bD f)) 0 n := by
  rcases h with ⟨h0, h1, _⟩ | ⟨_, c, X, rfl, hc, hc0, _, ds, rfl, hd⟩
  · have := (hf 0 h0).2; omega
  · have hk : arrOf n f o = 18 := by
      unfold arrOf
      split
      · exact (hf 0 (by omega)).1
      · exact ho (by omega)
    rw [hk] at hc
    have e1 : codeOf 18 = 176 := rfl
    have e2 : shortOf 18 = 160 := rfl
    have key : ∀ j, j < n → (c = 160 ∧ ds j = byteI (bD f j).length :: bD f j ∧ (bD f j).length ≤ 255) ∨ (c = 176 ∧ ds j = beL (bD f j).length 4 ++ bD f j) := fun j hj => by
      have := hd j hj (by rw [(hf j hj).1]; omega)
      rw [(hf j hj).1] at this
      rcases this with ⟨h, _⟩ | ⟨h, _⟩ | ⟨h, _⟩ | ⟨h, _⟩ | ⟨_, h⟩ | ⟨h, _⟩ | ⟨h, _⟩
      · omega
      · omega
      · exact absurd h.2.1 (by omega)
      · omega
      · exact h
      · omega
      · omega
    rcases hc with rfl | rfl
    · refine .inr ?_
      rw [e1]
      congr 1
      refine catM_congr n 0 fun j h1 h2 => ?_
      rcases key j (by omega) with ⟨h, _⟩ | ⟨_, h⟩
      · rw [e1] at h; omega
      · exact h
    · refine .inl ⟨?_, fun j hj => ?_⟩
      · rw [e2]
        congr 1
        refine catM_congr n 0 fun j h1 h2 => ?_
        rcases key j (by omega) with ⟨_, h, _⟩ | ⟨h, _⟩
        · exact h
        · rw [e2] at h; omega
      · rcases key j hj with ⟨_, _, h⟩ | ⟨h, _⟩
        · exact h
        · rw [e2] at h; omega

theorem okv_text {p : ValT} (h : p.okv) (hk : p.kind = 18) (hd : p.nd = 0) : ∃ (t : ByteArray) (f : Nat → ValT) (o : Int) (g : Nat → ValT), p = .mk 18 0 t 0 f o 0 g ∧ t.size ≤ 131072 := by
  cases p with
  | nul => exact absurd hk (by decide)
  | mk k u t n f o d g =>
    obtain ⟨⟨_, _, q2, _, _, qt, q1, _⟩, ⟨q3, q4, qu, _, qn, q5⟩, _⟩ := h
    obtain rfl : k = 18 := hk
    obtain rfl : n = 0 := q3 (by omega) (by omega) (by omega)
    obtain rfl : d = 0 := hd
    obtain rfl : u = 0 := qu (by omega)
    exact ⟨t, f, o, g, rfl, qt⟩
theorem fnReadArrayBinaryC (u0 : Nat) (p : ValT) (hw : p.wf) (fs : Int) (bh : List UInt8) (ct : Int) (hct : ct < 9223372036854775808) : ACalls Tryd.prog (gR u0) 11 [hAV p fs bh ct] [] (.lit (.bool true)) [] := by
  by_cases hb : bh.length ≤ 2147483647
  · have hz := zzYes (gR u0) p fs bh ct hb
    have hs := binarySample u0
    have h1 := binaryOne u0
    have lo : Le (AV.own 0 0 1 (some 1)) (AV.own 0 0 1 none) := Le_cap 0 0 1 (some 1)
    have dd : ∀ (a : AV) (r : Bool), AR u0 27 [.agg (vcl p), iL 18] [] (.tup [a, bL r]) [] → AR u0 27 [.agg (vcl p), iL 18] [] (.tup [.dead, bL r]) [] := fun a r h =>
      h.le (leAll_refl _) (Le_tup ⟨Le.dead _, Le.refl _, trivial⟩) rfl
    rcases dataB (validR u0) p hw fs bh ct hct with h | ⟨out, ha, hd⟩
    · have hn : p.n ≤ 9223372036854775807 := by
        cases p with
        | nul => exact Nat.zero_le _
        | mk k u t n f o d g => have := hw.2.2.1; exact this
      rcases arrOfV u0 p 18 hn with ⟨_, ao⟩ | ⟨_, ao⟩
      · exact binaryfA u0 p fs bh ct true ⟨dd _ _ ao, h, h1, hs, lo, hz, trivial⟩
      · exact binaryfA u0 p fs bh ct false ⟨dd _ _ ao, h, h1, hs, lo, hz, trivial⟩
    · obtain ⟨c, x, he, c0, c1, ck, hP⟩ := ha.head
      have hl := ha.len
      have hbl := ha.bh
      have hbc := byteI_eq (c := c) (by omega) c1
      have hok := ha.ok
      subst he
      have hn : p.n ≤ 1000 := by
        cases p with
        | nul => exact Nat.zero_le _
        | mk k u t n f o d g => exact (kidsOk hok).2.2.1
      have nocode : p.kind ≠ 23 → ¬((byteI c).toNat : Int) = 240 ∧ ¬((byteI c).toNat : Int) = 224 := fun h => by
        rw [hbc]
        refine ⟨fun e => h ?_, fun e => h ?_⟩ <;> (rw [← ck, e]; rfl)
      have cutNo : ∀ m, m < (byteI c :: x).length → HdNo u0 ((byteI c :: x).take m) := fun m hm => by
        cases m with
        | zero => exact hdEmpty u0
        | succ m =>
          rw [List.take_succ_cons]
          by_cases hk : p.kind = 23
          · obtain ⟨b, hb, hA, hC⟩ := hP.2.2.2.2.2 hk
            exact (hdArr u0 p.n b x c hC (by rcases hC with ⟨_, e, _⟩ | ⟨_, e⟩ <;> (rw [e] at hl; simp at hl; omega)) hn).2 m (by simpa using hm)
          · exact hdCode u0 _ _ (by rw [List.length_cons, List.length_take]; simp only [List.length_cons] at hl; omega) (nocode hk).1 (nocode hk).2
      have len2 : (byteI c :: (x ++ bh)).length ≤ 300000000 := by simp only [List.length_cons, List.length_append] at hl ⊢; omega
      rcases arrOfV u0 p 18 (by omega) with ⟨right, ao⟩ | ⟨wrong, ao⟩
      · rcases hd with ⟨m, hm, h⟩ | h
        · exact binaryfB u0 p fs bh ct _ true ⟨binaryNo u0 _ (by rw [List.length_take]; omega) (.inl (cutNo m hm)), ⟨rfl, trivial, trivial⟩, rfl, dd _ _ ao, h, h1, hs, lo, hz, trivial⟩
        · obtain ⟨hk, hof, hkids⟩ := right
          obtain ⟨b, hb, hA, hC⟩ := hP.2.2.2.2.2 hk
          have eb := binaryEls hA hn hkids hof
          have ebl : b.length ≤ 262204000 := by rcases hC with ⟨_, e, _⟩ | ⟨_, e⟩ <;> (rw [e] at hl; simp at hl; omega)
          have okd : ∀ i, i < p.n → (p.kidf i).okv := fun i hi => by
            cases p with
            | nul => exact absurd hi (Nat.not_lt_zero i)
            | mk k u t n f o d g => exact (kidsOk hok).2.1 i hi
          have hsz : ∀ j, j < p.n → 0 < (bD p.kidf j).length ∧ (bD p.kidf j).length ≤ 131072 := fun j hj => by
            have := ha.texts hk j hj (by rw [(hkids j hj).1]; decide) (by rw [(hkids j hj).1]; decide)
            obtain ⟨t, f', o', g', e, ht⟩ := okv_text (okd j hj) (hkids j hj).1 (hkids j hj).2
            unfold bD
            rw [len_text]
            rw [e] at this ⊢
            have this : t.size ≠ 0 := this
            exact ⟨by show 0 < t.size; omega, ht⟩
          have main : ∀ (c' : UInt8), c' = 160 ∨ c' = 176 → ∀ X, b = c' :: X → 2 * p.n ≤ X.length →
              (∀ k, k ≤ 9 → 0 < p.n → HdYes u0 (byteI c :: (x ++ bh)) p.n k → (byteI c :: (x ++ bh)).drop k = c' :: (X ++ bh) → AR u0 37 [.bts (byteI c :: (x ++ bh))] [] (.tup [.ro 1 p.n (fun j => [.lit (.string ⟨(bD p.kidf j).toArray⟩)]), .bts bh, bL true]) []) → (p.n = 0 → X = []) → ACalls Tryd.prog (gR u0) 11 [hAV p fs bh ct] [] (.lit (.bool true)) [] := fun c' hc' X eX h2 hy hX0 => by
            obtain ⟨k, hk9, hh, hdr⟩ := ((hdArr u0 p.n b x c hC ebl hn).1 bh hbl).1 (by rw [eX, List.length_cons]; omega)
            rw [eX, List.cons_append] at hdr
            by_cases h0 : p.n = 0
            · rw [h0] at ao hh
              rw [hX0 h0, List.nil_append] at hdr
              have y := binaryNil u0 k _ bh c' hc' (by omega) hk9 hh hdr
              exact (binaryfE u0 p fs bh ct _ bh p.kidf ⟨sameNil u0 _, y, ao, h, h1, hs, lo, hz, trivial⟩).cast rfl rfl (by simp) rfl
            · have y := hy k hk9 (by omega) hh hdr
              refine (binaryfD u0 p fs bh ct _ bh p.n p.kidf (by omega) _ ⟨sameTexts u0 p.n p.kidf 18 _ (by omega) fun i hi => ?_, binaryLawLoop u0 bh bh p.n p.kidf _ (by omega) (by omega), y, ao, h, h1, hs, lo, hz, trivial⟩).cast rfl rfl (by simp) rfl
              obtain ⟨t, f', o', g', e, ht⟩ := okv_text (okd i hi) (hkids i hi).1 (hkids i hi).2
              have e2 : lt 18 (fun j => ⟨(bD p.kidf j).toArray⟩) i = .mk 18 0 t 0 (fun _ => .nul) 0 0 (fun _ => .nul) := by
                show ValT.mk 18 0 ⟨(bD p.kidf i).toArray⟩ 0 (fun _ => .nul) 0 0 (fun _ => .nul) = _
                have : (⟨(bD p.kidf i).toArray⟩ : ByteArray) = t := by unfold bD; rw [e]; show (⟨t.data.toList.toArray⟩ : ByteArray) = t; simp
                rw [this]
              rw [e2, e]
              exact sameLeaf2 u0 18 0 t (fun _ => .nul) 0 (fun _ => .nul) t f' o' g' rfl
          have two : ∀ c', c' = 160 ∨ c' = 176 → 2 * p.n ≤ (catM (bE c' (bD p.kidf)) 0 p.n).length := fun c' hc' => catM_ge _ 2 p.n 0 fun j a b => by
            have := (hsz j (by omega)).1
            have l4 := beL_len ((bD p.kidf j).length : Int) (z := 4) (by omega)
            rcases hc' with rfl | rfl
            · show 2 ≤ (byteI (bD p.kidf j).length :: bD p.kidf j).length
              rw [List.length_cons]; omega
            · show 2 ≤ (beL (bD p.kidf j).length 4 ++ bD p.kidf j).length
              rw [List.length_append]; omega
          rcases eb with ⟨eb, hs255⟩ | eb
          · have t2 := two 160 (.inl rfl)
            refine main 160 (.inl rfl) _ eb t2 (fun k hk9 h0 hh hdr => ?_) (fun h0 => by rw [h0]; rfl)
            have hp := dlen hdr
            rw [List.length_cons (a := 160), List.length_append (bs := bh)] at hp
            exact binaryYes160 u0 p.n k _ (bD p.kidf) bh h0 hn (by omega) hk9 hh hdr (by omega) (fun j hj => (hsz j hj).1) hs255
          · have t2 := two 176 (.inr rfl)
            refine main 176 (.inr rfl) _ eb t2 (fun k hk9 h0 hh hdr => ?_) (fun h0 => by rw [h0]; rfl)
            have hp := dlen hdr
            rw [List.length_cons (a := 176), List.length_append (bs := bh)] at hp
            exact binaryYes176 u0 p.n k _ (bD p.kidf) bh h0 hn (by omega) hk9 hh hdr (by omega) (fun j hj => (hsz j hj).1) (fun j hj => (hsz j hj).2)
      · by_cases hN : p.kind = 23 ∧ p.n = 0
        · rcases hd with ⟨m, hm, h⟩ | h
          · exact binaryfN u0 p fs bh ct _ _ _ ⟨hN, dd _ _ ao, h, h1, hs, lo, hz, trivial⟩
          · exact binaryfN u0 p fs bh ct _ _ _ ⟨hN, dd _ _ ao, h, h1, hs, lo, hz, trivial⟩
        · have hN' : p.kind = 23 → ¬p.n = 0 := fun a b => hN ⟨a, b⟩
          rcases hd with ⟨m, hm, h⟩ | h
          · exact binaryfM u0 p fs bh ct _ ⟨binaryNo u0 _ (by rw [List.length_take]; omega) (.inl (cutNo m hm)), hN', dd _ _ ao, h, h1, hs, lo, hz, trivial⟩
          · refine binaryfC u0 p fs bh ct _ ⟨binaryNo u0 _ (by rw [List.cons_append]; omega) ?_, hN', dd _ _ ao, h, h1, hs, lo, hz, trivial⟩
            rw [List.cons_append]
            by_cases hk : p.kind = 23
            · obtain ⟨b, hb, hA, hC⟩ := hP.2.2.2.2.2 hk
              have ebl : b.length ≤ 262204000 := by rcases hC with ⟨_, e, _⟩ | ⟨_, e⟩ <;> (rw [e] at hl; simp at hl; omega)
              have hh := (hdArr u0 p.n b x c hC ebl hn).1 bh hbl
              by_cases hfew : b.length < p.n
              · exact .inl (hh.2 hfew)
              · obtain ⟨k, hk9, hy, hdr⟩ := hh.1 (by omega)
                have hne : ∃ y z, b = y :: z ∧ (¬((y.toNat : Nat) : Int) = 160 ∧ ¬((y.toNat : Nat) : Int) = 176) := by
                  have hom : ∀ i, i < p.n → (p.kidf i).kind = (p.kidf 0).kind ∧ (p.kidf i).nd = (p.kidf 0).nd := by
                    cases p with
                    | nul => exact absurd hk (by decide)
                    | mk k u t n f o d g => exact (kidsOk hok).1 hk
                  have hkd : 0 ≤ (p.kidf 0).kind ∧ (p.kidf 0).kind < 24 := by
                    cases p with
                    | nul => exact absurd hk (by decide)
                    | mk k u t n f o d g => exact fits_kind (ValT.okv.fits ((kidsOk hok).2.1 0 (by have := hN' hk; show 0 < n; have : ¬n = 0 := this; omega)))
                  have hn0 : 0 < p.n := by have := hN' hk; omega
                  rcases hA with ⟨_, _, r, rfl⟩ | ⟨hnd, c', X, rfl, hc, hc0, _⟩
                  · exact ⟨0, r, rfl, by decide⟩
                  · refine ⟨_, X, rfl, ?_⟩
                    have ea : arrOf p.n p.kidf p.kof = (p.kidf 0).kind := by unfold arrOf; rw [if_pos hn0]
                    rw [ea] at hc
                    have hkne : (p.kidf 0).kind ≠ 18 := fun e => wrong ⟨hk, fun e0 => absurd e0 (hN' hk), fun i hi => ⟨by rw [(hom i hi).1, e], by rw [(hom i hi).2]; exact Nat.eq_zero_of_not_pos fun h => hnd ⟨hn0, h⟩⟩⟩
                    have cn0 := codes_ne 18 160 _ hkd.1 hkd.2 (by decide) hkne
                    have cn1 := codes_ne 18 176 _ hkd.1 hkd.2 (by decide) hkne
                    have cl := codes_lt _ hkd.1 hkd.2
                    rw [byteI_eq (by omega) (by omega)]
                    omega
                obtain ⟨y, z, rfl, hyc⟩ := hne
                refine .inr ⟨p.n, k, by have := hN' hk; omega, hn, hk9, hy, ?_, ?_⟩
                · rw [at_drop (by rw [hdr]; rfl)]; exact hyc
                · have e : ((byteI c :: (x ++ bh)).drop k).length = _ := List.length_drop
                  rw [hdr, List.cons_append, List.length_cons (a := y)] at e
                  omega
            · exact .inl (hdCode u0 _ _ (by omega) (nocode hk).1 (nocode hk).2)
  · exact binaryfZ u0 p fs bh ct ⟨zzNo (gR u0) p fs bh ct hb, trivial⟩
end Go.Ax
