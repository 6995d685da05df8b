/-
  laws.FnReadArrayBoolean: what the function computes.
-/
import Derived.Test.YtbdfpnhcincimaaDoorVaU
import Derived.Test.YtbdfpnhcincimaaDoorWk
import Derived.Test.YtbdfpnhcincimaaDoorRbBoolean
import Derived.Test.YtbdfpnhcincimaaDoorRrBoolean
import Derived.Test.YtbdfpnhcincimaaDoorRlBoolean
set_option linter.unusedVariables false
set_option linter.unusedSimpArgs false
set_option maxRecDepth 100000
set_option maxHeartbeats 1000000
namespace Go.Ax
open Go.Proofs

theorem idle64 : IdleD Tryd.prog 64 := idle_of2 (fn := Tryd.f64) Tryd.func64 (by kernel_rfl) (by kernel_rfl) (fun ρ => by kernel_rfl) (by kernel_rfl)

/-- The numbers behind a place. -/
def booleanV (bs : List UInt8) (k j : Nat) : Bool := !((((bs.getD (k + 1 + j) 0).toNat : Nat) : Int) == 0)

theorem booleanLoop (u0 : Nat) (bs : List UInt8) (k n : Nat) (hn : n ≤ 1000000) (hl : k + 1 + n ≤ bs.length) : ∀ (m i : Nat), n - i = m → i ≤ n →
    LoopC Tryd.prog (gR u0) 98 (loopAt Tryd.f65 0) [(0, .ptr 0 0), (7, .own 2 0 n (some n)), (57, .own 1 (k + 1) n none), (58, iL n), (59, iL i)] [.cells 112 1 [nL], .bytes 5 bs, .cells 4 1 (Fill.bools (booleanV bs k) n i)] (.exit 1)
      [(0, .ptr 0 0), (7, .own 2 0 n (some n))] [.cells 112 1 [nL], .bytes 5 bs, .cells 4 1 (Fill.bools (booleanV bs k) n n)]
  | 0, i, hm, hi => by
    obtain rfl : i = n := by omega
    exact LoopC.exit ((booleanX u0 bs k i i (booleanV bs k) ⟨by simp, trivial⟩).cast rfl rfl rfl (by rw [Fill.bools_ren])) (by simp)
  | m + 1, i, hm, hi => by
    have fin : ∀ b, booleanV bs k i = b → AV.renL (idxIn [0, 1, 2] 0) (setL (Fill.bools (booleanV bs k) n i) (0 + (i : Int).toNat * 1) [bL b]) = Fill.bools (booleanV bs k) n (i + 1) := fun b hb => by
      rw [Int.toNat_natCast, Nat.zero_add, Nat.mul_one, ← hb]
      have e : setL (Fill.bools (booleanV bs k) n i) i [bL (booleanV bs k i)] = Fill.bools (booleanV bs k) n (i + 1) := Fill.bools_set (booleanV bs k) n i
      rw [e, Fill.bools_ren]
    cases hv : ((((bs.getD (k + 1 + i) 0).toNat : Nat) : Int) == 0) with
    | true =>
      have st := booleanM u0 bs k n i (booleanV bs k) ⟨by simp; omega, by omega, by rw [Int.toNat_natCast, Nat.mul_one]; exact hv, by rw [Int.toNat_natCast]; omega, by omega, by simp; omega, trivial⟩
      rw [wrapI i (by omega)] at st
      refine LoopC.step (st.cast rfl rfl rfl ?_) (booleanLoop u0 bs k n hn hl m (i + 1) (by omega) (by omega))
      rw [fin false (by unfold booleanV; rw [hv]; rfl)]
    | false =>
      have st := booleanL u0 bs k n i (booleanV bs k) ⟨by simp; omega, by omega, by rw [Int.toNat_natCast, Nat.mul_one]; exact hv, by rw [Int.toNat_natCast]; omega, by omega, by simp; omega, trivial⟩
      rw [wrapI i (by omega)] at st
      refine LoopC.step (st.cast rfl rfl rfl ?_) (booleanLoop u0 bs k n hn hl m (i + 1) (by omega) (by omega))
      rw [fin true (by unfold booleanV; rw [hv]; rfl)]

theorem booleanUG (u0 n k : Nat) (bs : List UInt8) (h0 : 0 < n) (hn : n ≤ 1000) (hl : bs.length ≤ 400000000) (hk : k ≤ 9) (hh : HdYes u0 bs n k) (hc : (((bs[k]?.getD 0).toNat : Nat) : Int) = 86) (he : k + 1 + n ≤ bs.length) :
    AR u0 65 [.ptr 0 0, .ptr 1 0] [.cells 112 1 [nL], bF 2 bs 0, .bytes 5 bs] nI [.cells 112 1 [.ro 1 n (fun j => [.lit (.bool (booleanV bs k j))])], .cells 78 2 [.own 2 0 bs.length none, iL ((k + 1 + n : Nat) : Int)], .bytes 5 bs] := by
  have t := tyk u0 bs (by omega) k (by omega) ⟨by omega, by omega, trivial⟩
  rw [hc] at t
  have x := (nxt u0 bs (by omega) (k + 1) n (by omega) (by omega) ⟨by omega, by omega, trivial⟩).cast (args' := [.ptr 0 0, iL n]) (H0 := bK bs ((k : Int) + 1)) (ret' := .tup [.own 1 (k + 1) n none, bL true]) (H1 := bK bs ((k : Int) + 1 + n)) rfl rfl
    (by rw [show ((((k + 1 : Nat) : Int) + (n : Int)).toNat - (k + 1)) = n by omega]) rfl
  have lp := (booleanLoop u0 bs k n (by omega) he n 0 rfl (by omega)).code
  have z : repL [AV.lit (.bool false)] n = Fill.bools (booleanV bs k) n 0 := Fill.bools_zero (booleanV bs k) n
  have a := booleanG u0 bs k n h0 (booleanV bs k) ⟨by rw [z]; exact lp, by rw [z, Fill.bools_ren]; exact RowLe.refl _, x, t, by omega, h0, hh, trivial⟩
  have a2 := (a.freezeRet 3 rfl (by show AV.closedL (Fill.bools (booleanV bs k) n n) = true; simp)).only [0, 1, 2] rfl
  refine a2.leOut ⟨RowLe_cell (Le_ro fun i hi => Fill.bools_slice (booleanV bs k) n i hi), ?_, RowLe.refl _, trivial⟩
  have e : ((k : Int) + 1 + n) = ((k + 1 + n : Nat) : Int) := by omega
  show RowLe (.cells 78 2 [.own 2 0 bs.length none, iL ((k : Int) + 1 + n)]) _
  rw [e]
  exact RowLe.refl _

theorem booleanUZ (u0 k : Nat) (bs : List UInt8) (hl : bs.length ≤ 400000000) (hk : k ≤ 9) (hh : HdYes u0 bs 0 k) (hc : (((bs[k]?.getD 0).toNat : Nat) : Int) = 86) (he : k + 1 ≤ bs.length) :
    AR u0 65 [.ptr 0 0, .ptr 1 0] [.cells 112 1 [nL], bF 2 bs 0, .bytes 5 bs] nI [.cells 112 1 [nL], .cells 78 2 [.own 2 0 bs.length none, iL ((k + 1 : Nat) : Int)], .bytes 5 bs] := by
  have t := tyk u0 bs (by omega) k (by omega) ⟨by omega, by omega, trivial⟩
  rw [hc] at t
  have x := (nxt u0 bs (by omega) (k + 1) 0 (by omega) (by omega) ⟨by omega, by omega, trivial⟩).cast (args' := [.ptr 0 0, iL 0]) (H0 := bK bs ((k : Int) + 1)) (ret' := .tup [.own 1 (k + 1) 0 none, bL true]) (H1 := bK bs ((k : Int) + 1)) rfl rfl
    (by rw [show ((((k + 1 : Nat) : Int) + ((0 : Nat) : Int)).toNat - (k + 1)) = 0 by omega]) (by rw [show (((k + 1 : Nat) : Int) + ((0 : Nat) : Int)) = (k : Int) + 1 by omega])
  exact booleanZ u0 bs k ⟨x, t, hh, trivial⟩

/-- Another type. -/
theorem booleanUT (u0 n k : Nat) (bs : List UInt8) (hl : bs.length ≤ 400000000) (hk : k ≤ 9) (hn : n ≤ 1000) (hh : HdYes u0 bs n k) (hc : ¬(((bs[k]?.getD 0).toNat : Nat) : Int) = 86 ∧ ¬(((bs[k]?.getD 0).toNat : Nat) : Int) = 65 ∧ ¬(((bs[k]?.getD 0).toNat : Nat) : Int) = 66) (he : k + 1 ≤ bs.length) :
    ∃ t k' : Nat, AR u0 65 [.ptr 0 0, .ptr 1 0] [.cells 112 1 [nL], bF 2 bs 0, .bytes 5 bs] (.ifc t .dead) [.cells 112 1 [nL], .cells 78 2 [.own 2 0 bs.length none, iL k'], .bytes 5 bs] := by
  have t := tyk u0 bs (by omega) k (by omega) ⟨by omega, by omega, trivial⟩
  by_cases h0 : n = 0
  · subst h0
    have a := booleanT0 u0 bs k _ ⟨hc.2.2, hc.2.1, hc.1, t, hh, trivial⟩
    have a2 := (a.le (ret' := .ifc 162 .dead) (leAll_refl _) (Le_ifcd _ _) rfl).only [0, 1, 2] rfl
    exact ⟨162, k + 1, a2⟩
  · have a := booleanT u0 bs k n (by omega) _ ⟨hc.2.2, hc.2.1, hc.1, t, by omega, by omega, hh, trivial⟩
    have a2 := (a.le (ret' := .ifc 162 .dead) (leAll_refl _) (Le_ifcd _ _) rfl).only [0, 1, 2] rfl
    exact ⟨162, k + 1, a2⟩

theorem booleanNo (u0 : Nat) (bs : List UInt8) (hl : bs.length ≤ 400000000) (h : HdNo u0 bs ∨ ∃ n k, n ≤ 1000 ∧ k ≤ 9 ∧ HdYes u0 bs n k ∧ (¬(((bs[k]?.getD 0).toNat : Nat) : Int) = 86 ∧ ¬(((bs[k]?.getD 0).toNat : Nat) : Int) = 65 ∧ ¬(((bs[k]?.getD 0).toNat : Nat) : Int) = 66) ∧ k + 1 ≤ bs.length) :
    AR u0 31 [.bts bs] [] (.tup [nL, nL, bL false]) [] := by
  have key : ∃ t k' : Nat, AR u0 65 [.ptr 0 0, .ptr 1 0] [.cells 112 1 [nL], bF 2 bs 0, .bytes 5 bs] (.ifc t .dead) [.cells 112 1 [nL], .cells 78 2 [.own 2 0 bs.length none, iL k'], .bytes 5 bs] := by
    rcases h with ⟨t, k, h⟩ | ⟨n, k, hn, hk, hh, hc, he⟩
    · exact ⟨t, k, booleanN u0 bs k t ⟨h, trivial⟩⟩
    · exact booleanUT u0 n k bs hl hk hn hh hc he
  obtain ⟨t, k, key⟩ := key
  exact booleanRN u0 bs (by omega) k t ⟨key, by omega, idle64, trivial⟩

theorem booleanRLoop (u0 : Nat) (bs : List UInt8) (k n : Nat) (g : Nat → Bool) (h0 : 0 < n) (hn : n ≤ 1000000) : CodeC Tryd.prog (gR u0) 33 (.loop (loopAt Tryd.f31 0))
    [(2, .ptr 0 0), (3, .ptr 1 0), (4, .ptr 2 0), (5, .ptr 3 0), (7, nI), (15, .ro 1 n (fun j => [.lit (.bool (g j))])), (16, iL n), (17, iL 0)] [.cells 61 1 [nL], .cells 26 1 [nL], .cells 4 1 [bL false], .cells 78 2 [.own 4 0 bs.length none, iL k], .bytes 5 bs] (.exit 0)
    [(2, .ptr 0 0), (3, .ptr 1 0), (4, .ptr 2 0), (5, .ptr 3 0), (7, nI)] [.cells 61 1 [.own 5 0 n none], .cells 26 1 [nL], .cells 4 1 [bL false], .cells 78 2 [.own 4 0 bs.length none, iL k], .bytes 5 bs, .cells 4 1 (Fill.bools g n n)] :=
  growNil (P := Tryd.prog) (G := gR u0) (k := 5) (n := 33) (c := loopAt Tryd.f31 0) (N := n) (ex := .exit 0)
    (fun i _ => [(2, .ptr 0 0), (3, .ptr 1 0), (4, .ptr 2 0), (5, .ptr 3 0), (7, nI), (15, .ro 1 n (fun j => [.lit (.bool (g j))])), (16, iL n), (17, iL i)])
    (fun _ => [(2, .ptr 0 0), (3, .ptr 1 0), (4, .ptr 2 0), (5, .ptr 3 0), (7, nI)])
    (fun w => [.cells 61 1 [w], .cells 26 1 [nL], .cells 4 1 [bL false], .cells 78 2 [.own 4 0 bs.length none, iL k], .bytes 5 bs])
    (fun i => .cells 4 1 (Fill.bools g i i)) (fun i => i) (by simp) [some 0, some 1, some 2, some 3, some 4, some 6] nL h0
    (booleanR0 u0 bs k n 0 g ⟨by omega, by simp; omega, trivial⟩)
    (fun i hi0 hi => by
      have st := booleanRL u0 bs k n i g ⟨⟨by omega, by omega, rfl⟩, by omega, by simp; omega, trivial⟩
      rw [wrapI i (by omega), Int.toNat_natCast, Fill.bools_take, Fill.bools_succ, Fill.bools_ren] at st
      exact st)
    ((booleanRX u0 bs k n n g ⟨by simp, trivial⟩).cast rfl rfl rfl (by rw [Fill.bools_ren]; rfl))
    (fun i hi => rfl) (fun i hi => rfl)
    (fun i hi => congrArg (fun x => [Row.cells 61 1 [.own 5 0 (i + 1) none], .cells 26 1 [nL], .cells 4 1 [bL false], .cells 78 2 [.own 4 0 bs.length none, iL k], .bytes 5 bs, .cells 4 1 x]) (Fill.bools_ren _ _ _ _))
    [some 0, some 1, some 2, some 3, some 4, some 5] rfl rfl rfl rfl
    (fun i => congrArg (fun x => [Row.cells 61 1 [.own 5 0 i none], .cells 26 1 [nL], .cells 4 1 [bL false], .cells 78 2 [.own 4 0 bs.length none, iL k], .bytes 5 bs, .cells 4 1 x]) (Fill.bools_ren _ _ _ _)) rfl

theorem restOf (bs r : List UInt8) (k : Nat) (h : bs.drop k = r) : Le (.bts (((bs.drop k).drop 0).take (bs.length - k))) (.bts r) := by
  subst h
  rw [show bs.length - k = (bs.drop k).length by simp]
  exact Le_take _

theorem booleanYes (u0 n k : Nat) (bs r : List UInt8) (h0 : 0 < n) (hn : n ≤ 1000) (hl : bs.length ≤ 400000000) (hk : k ≤ 9) (hh : HdYes u0 bs n k) (hc : (((bs[k]?.getD 0).toNat : Nat) : Int) = 86) (he : k + 1 + n ≤ bs.length) (hr : bs.drop (k + 1 + n) = r) :
    AR u0 31 [.bts bs] [] (.tup [.ro 1 n (fun j => [.lit (.bool (booleanV bs k j))]), .bts r, bL true]) [] := by
  have a := booleanRG u0 bs (by omega) (k + 1 + n) n h0 (booleanV bs k) ⟨by omega, by omega, booleanRLoop u0 bs (k + 1 + n) n (booleanV bs k) h0 (by omega), booleanUG u0 n k bs h0 hn hl hk hh hc he, by omega, idle64, trivial⟩
  have a2 := ((a.freezeRet 0 rfl (by show AV.closedL (Fill.bools (booleanV bs k) n n) = true; simp)).freezeRet 1 rfl rfl).only [] rfl
  exact a2.le (leAll_refl _) (Le_tup ⟨Le_ro fun i hi => Fill.bools_slice (booleanV bs k) n i hi, restOf bs r (k + 1 + n) hr, Le.refl _, trivial⟩) rfl

theorem booleanNil (u0 k : Nat) (bs r : List UInt8) (hl : bs.length ≤ 400000000) (hk : k ≤ 9) (hh : HdYes u0 bs 0 k) (hc : (((bs[k]?.getD 0).toNat : Nat) : Int) = 86) (he : k + 1 ≤ bs.length) (hr : bs.drop (k + 1) = r) :
    AR u0 31 [.bts bs] [] (.tup [nL, .bts r, bL true]) [] := by
  have a := booleanRZ u0 bs (by omega) (k + 1) ⟨by omega, by omega, booleanUZ u0 k bs hl hk hh hc he, by omega, idle64, trivial⟩
  have a2 := (a.freezeRet 0 rfl rfl).only [] rfl
  exact a2.le (leAll_refl _) (Le_tup ⟨Le.refl _, restOf bs r (k + 1) hr, Le.refl _, trivial⟩) rfl

theorem bitC (u0 : Nat) (b : Bool) : AR u0 32 [bL b] [] (uL (if b = true then (1 : Int) else 0)) [] := by
  cases b with
  | true => exact bitT u0 trivial
  | false => exact bitF u0 trivial

/-! ### The law's own loop -/
theorem booleanLawLoop (u0 : Nat) (bh y : List UInt8) (n : Nat) (f : Nat → ValT) (g : Nat → Bool) (h0 : 0 < n) (hn : n ≤ 1000000) : CodeC Tryd.prog (gR u0) 121 (.loop (loopAt Tryd.f8 0))
    [(8, bL true), (10, .bts bh), (13, kA n f), (16, .bts y), (17, bL true), (18, nL), (94, .ro 1 n (fun j => [.lit (.bool (g j))])), (95, iL n), (96, iL 0)] [] (.exit 0)
    [(8, bL true), (10, .bts bh), (13, kA n f), (16, .bts y), (17, bL true), (18, .own 0 0 n none)] [.cells 25 6 (Fill.leafs 1 (fun j => if g j = true then (1 : Int) else 0) n)] :=
  growNil (P := Tryd.prog) (G := gR u0) (k := 0) (n := 121) (c := loopAt Tryd.f8 0) (N := n) (ex := .exit 0)
    (fun i w => [(8, bL true), (10, .bts bh), (13, kA n f), (16, .bts y), (17, bL true), (18, w), (94, .ro 1 n (fun j => [.lit (.bool (g j))])), (95, iL n), (96, iL i)])
    (fun w => [(8, bL true), (10, .bts bh), (13, kA n f), (16, .bts y), (17, bL true), (18, w)])
    (fun w => []) (fun i => .cells 25 6 (Fill.leafs 1 (fun j => if g j = true then (1 : Int) else 0) i)) (fun i => i) (by simp) [some 1] nL h0
    (booleanf0 u0 bh y n f 0 g ⟨bitC u0 _, by omega, by simp; omega, trivial⟩)
    (fun i hi0 hi => by
      have st := booleanfL u0 bh y n f i g ⟨⟨by omega, by omega, rfl⟩, bitC u0 _, by rw [Int.toNat_natCast]; exact leAll_refl _, by omega, by simp; omega, trivial⟩
      rw [wrapI i (by omega), Fill.leafs_take, Fill.leafs_succ 1 (fun j => if g j = true then (1 : Int) else 0), Fill.leafs_ren] at st
      exact st)
    ((booleanfX u0 bh y n f n g ⟨by simp, trivial⟩).cast rfl rfl rfl (by rw [Fill.leafs_ren]; rfl))
    (fun i hi => rfl) (fun i hi => rfl)
    (fun i hi => congrArg (fun x => [Row.cells 25 6 x]) (Fill.leafs_ren _ _ _ _))
    [some 0] rfl rfl rfl rfl
    (fun i => congrArg (fun x => [Row.cells 25 6 x]) (Fill.leafs_ren _ _ _ _)) rfl

theorem booleanLen (n : Nat) (f : Nat → ValT) : (catM (fun j => beL (f j).num 1) 0 n).length = 1 * n := by
  have e : (fun j => beL (f j).num 1) = fun j => [byteI (f j).num] := by funext j; simp [beL]
  rw [e, catM_one]; simp
theorem booleanVal (n : Nat) (f : Nat → ValT) (bs : List UInt8) (k : Nat) (r : List UInt8) (h : bs.drop k = 86 :: (catM (fun j => beL (f j).num 1) 0 n ++ r)) (i : Nat) (hi : i < n) (u : Int) (hu : (f i).num = u) (h0 : 0 ≤ u) (h1 : u < 18446744073709551616) (hn : NumOk 1 u) (hb : (1 : Int) = 1 → u ≤ 1) :
    (if booleanV bs k i = true then (1 : Int) else 0) = u := by
  have e : (fun j => beL (f j).num 1) = fun j => [byteI (f j).num] := by funext j; simp [beL]
  rw [e, catM_one] at h
  have g := at_drop2 (j := 1 + i) h
  rw [Nat.add_comm 1 i, List.getElem?_cons_succ, List.getElem?_append_left (by simpa using hi)] at g
  have g2 : bs.getD (k + 1 + i) 0 = byteI u := by
    rw [List.getD_eq_getElem?_getD, show k + 1 + i = k + (i + 1) by omega, g]
    simp [hi, hu]
  unfold booleanV
  rw [g2]
  have hb := hb rfl
  have : u = 0 ∨ u = 1 := by omega
  rcases this with rfl | rfl <;> rfl

theorem booleanSample (u0 : Nat) : AR u0 30 [.own 0 0 1 none] [.cells 4 1 [.lit (.bool true)]] (.tup [.bts [224, 3, 1, 86, 1], bL true]) [.cells 4 1 [.lit (.bool true)]] := by
  have i38 : IdleD Tryd.prog 38 := idle_of2 (fn := Tryd.f38) Tryd.func38 (by kernel_rfl) (by kernel_rfl) (fun ρ => by kernel_rfl) (by kernel_rfl)
  have a := booleanW u0 ⟨i38, trivial⟩
  exact (a.freezeRet 1 rfl rfl).only [0] rfl

theorem booleanOne (u0 : Nat) : AR u0 31 [.bts [224, 3, 1, 86, 1]] [] (.tup [.ro 1 1 (fun _ => [.lit (.bool true)]), .bts [], bL true]) [] := by
  have hh : HdYes u0 [224, 3, 1, 86, 1] 1 3 := (hd8 u0 1 [86, 1] [] (by decide) (by decide) (by decide)).1 (by decide)
  have y := booleanYes u0 1 3 [224, 3, 1, 86, 1] [] (by decide) (by decide) (by decide) (by decide) hh rfl (by decide) rfl
  exact y.le (leAll_refl _) (Le_tup ⟨Le_ro fun i hi => by obtain rfl : i = 0 := by omega
                                                          rfl, Le.refl _, Le.refl _, trivial⟩) rfl

/-- What such an array's elements are. -/
theorem booleanEls {n : Nat} {f : Nat → ValT} {o : Int} {b : List UInt8} (h : ArrF n f o b) (hn : n ≤ 1000) (hf : ∀ i, i < n → (f i).kind = 1 ∧ (f i).nd = 0) (ho : n = 0 → o = 1) (hnum : ∀ i, i < n → 0 ≤ (f i).num) : b = 86 :: catM (fun j => beL (f j).num 1) 0 n := by
  rcases h with ⟨h0, h1, _⟩ | ⟨_, c, X, rfl, hc, hc0, _, ds, rfl, hd⟩
  · have := (hf 0 h0).2; omega
  · have hk : arrOf n f o = 1 := by
      unfold arrOf
      split
      · exact (hf 0 (by omega)).1
      · exact ho (by omega)
    rw [hk] at hc
    have e1 : codeOf 1 = 86 := rfl
    have e2 : shortOf 1 = 0 := rfl
    obtain rfl : c = 86 := by omega
    congr 1
    refine catM_congr n 0 fun j h1 h2 => ?_
    have := hd j (by omega) (by rw [(hf j (by omega)).1]; omega)
    rw [(hf j (by omega)).1] at this
    rcases this with ⟨h, _⟩ | ⟨_, h⟩ | ⟨h, _⟩ | ⟨h, _⟩ | ⟨h, _⟩ | ⟨h, _⟩ | ⟨h, _⟩
    · omega
    · rcases h with ⟨h, _⟩ | ⟨_, h⟩
      · have hu : 0 ≤ (f j).num := hnum j (by omega)
        omega
      · rw [h]; simp [beL]
    · exact absurd h.1 (by decide)
    all_goals omega

theorem fnReadArrayBooleanC (u0 : Nat) (p : ValT) (hw : p.wf) (fs : Int) (bh : List UInt8) (ct : Int) (hct : ct < 9223372036854775808) : ACalls Tryd.prog (gR u0) 8 [hAV p fs bh ct] [] (.lit (.bool true)) [] := by
  by_cases hb : bh.length ≤ 2147483647
  · have hz := zzYes (gR u0) p fs bh ct hb
    have hs := booleanSample u0
    have h1 := booleanOne u0
    have lo : Le (AV.own 0 0 1 (some 1)) (AV.own 0 0 1 none) := Le_cap 0 0 1 (some 1)
    have dd : ∀ (a : AV) (r : Bool), AR u0 27 [.agg (vcl p), iL 1] [] (.tup [a, bL r]) [] → AR u0 27 [.agg (vcl p), iL 1] [] (.tup [.dead, bL r]) [] := fun a r h =>
      h.le (leAll_refl _) (Le_tup ⟨Le.dead _, Le.refl _, trivial⟩) rfl
    rcases dataB (validR u0) p hw fs bh ct hct with h | ⟨out, ha, hd⟩
    · have hn : p.n ≤ 9223372036854775807 := by
        cases p with
        | nul => exact Nat.zero_le _
        | mk k u t n f o d g => have := hw.2.2.1; exact this
      rcases arrOfV u0 p 1 hn with ⟨_, ao⟩ | ⟨_, ao⟩
      · exact booleanfA u0 p fs bh ct true ⟨dd _ _ ao, h, h1, hs, lo, hz, trivial⟩
      · exact booleanfA u0 p fs bh ct false ⟨dd _ _ ao, h, h1, hs, lo, hz, trivial⟩
    · obtain ⟨c, x, he, c0, c1, ck, hP⟩ := ha.head
      have hl := ha.len
      have hbl := ha.bh
      have hbc := byteI_eq (c := c) (by omega) c1
      have hok := ha.ok
      subst he
      have hn : p.n ≤ 1000 := by
        cases p with
        | nul => exact Nat.zero_le _
        | mk k u t n f o d g => exact (kidsOk hok).2.2.1
      have nocode : p.kind ≠ 23 → ¬((byteI c).toNat : Int) = 240 ∧ ¬((byteI c).toNat : Int) = 224 := fun h => by
        rw [hbc]
        refine ⟨fun e => h ?_, fun e => h ?_⟩ <;> (rw [← ck, e]; rfl)
      have cutNo : ∀ m, m < (byteI c :: x).length → HdNo u0 ((byteI c :: x).take m) := fun m hm => by
        cases m with
        | zero => exact hdEmpty u0
        | succ m =>
          rw [List.take_succ_cons]
          by_cases hk : p.kind = 23
          · obtain ⟨b, hb, hA, hC⟩ := hP.2.2.2.2.2 hk
            exact (hdArr u0 p.n b x c hC (by rcases hC with ⟨_, e, _⟩ | ⟨_, e⟩ <;> (rw [e] at hl; simp at hl; omega)) hn).2 m (by simpa using hm)
          · exact hdCode u0 _ _ (by rw [List.length_cons, List.length_take]; simp only [List.length_cons] at hl; omega) (nocode hk).1 (nocode hk).2
      have len2 : (byteI c :: (x ++ bh)).length ≤ 300000000 := by simp only [List.length_cons, List.length_append] at hl ⊢; omega
      rcases arrOfV u0 p 1 (by omega) with ⟨right, ao⟩ | ⟨wrong, ao⟩
      · rcases hd with ⟨m, hm, h⟩ | h
        · exact booleanfB u0 p fs bh ct _ true ⟨booleanNo u0 _ (by rw [List.length_take]; omega) (.inl (cutNo m hm)), ⟨rfl, trivial, trivial⟩, rfl, dd _ _ ao, h, h1, hs, lo, hz, trivial⟩
        · obtain ⟨hk, hof, hkids⟩ := right
          obtain ⟨b, hb, hA, hC⟩ := hP.2.2.2.2.2 hk
          have eb := booleanEls hA hn hkids hof fun i hi => by
            cases p with
            | nul => exact absurd hi (Nat.not_lt_zero i)
            | mk k u t n f o d g =>
              have ok := (kidsOk hok).2.1 i hi
              show 0 ≤ (f i).num
              revert ok
              cases f i with
              | nul => exact fun _ => Int.le_refl 0
              | mk k2 u2 t2 n2 f2 o2 d2 g2 => exact fun ok => ok.1.2.2.1
          have ebl : b.length ≤ 262204000 := by rcases hC with ⟨_, e, _⟩ | ⟨_, e⟩ <;> (rw [e] at hl; simp at hl; omega)
          have hcl := booleanLen p.n p.kidf
          obtain ⟨k, hk9, hh, hdr⟩ := ((hdArr u0 p.n b x c hC ebl hn).1 bh hbl).1 (by rw [eb, List.length_cons]; omega)
          rw [eb, List.cons_append] at hdr
          have hlen : ((byteI c :: (x ++ bh)).drop k).length = _ := List.length_drop
          rw [hdr, List.length_cons (a := 86), List.length_append (bs := bh)] at hlen
          have hck : ((((byteI c :: (x ++ bh))[k]?.getD 0).toNat : Nat) : Int) = 86 := by rw [at_drop hdr]; rfl
          have hdr2 : (byteI c :: (x ++ bh)).drop (k + 1 + 1 * p.n) = bh := by
            rw [Nat.add_assoc, ← List.drop_drop, hdr, Nat.add_comm 1, List.drop_succ_cons, List.drop_append, List.drop_eq_nil_of_le (by omega), List.nil_append, show 1 * p.n - (catM (fun j => beL (p.kidf j).num 1) 0 p.n).length = 0 by omega]
            rfl
          by_cases h0 : p.n = 0
          · rw [h0] at ao hh hdr2
            have y := booleanNil u0 k _ bh (by omega) hk9 hh hck (by omega) (by simpa using hdr2)
            exact (booleanfE u0 p fs bh ct _ bh p.kidf ⟨sameNil u0 _, y, ao, h, h1, hs, lo, hz, trivial⟩).cast rfl rfl (by simp) rfl
          · have y := booleanYes u0 p.n k _ bh (by omega) hn (by omega) hk9 hh hck (by omega) (by simpa using hdr2)
            refine (booleanfD u0 p fs bh ct _ bh p.n p.kidf (by omega) _ ⟨sameLeafs u0 p.n p.kidf 1 _ (by omega) fun i hi => ?_, booleanLawLoop u0 bh bh p.n p.kidf _ (by omega) (by omega), y, ao, h, h1, hs, lo, hz, trivial⟩).cast rfl rfl (by simp) rfl
            obtain ⟨hki, hdi⟩ := hkids i hi
            have oki : (p.kidf i).okv := by
              cases p with
              | nul => exact absurd h0 (by simp [ValT.n])
              | mk k u t n f o d g => exact (kidsOk hok).2.1 i hi
            obtain ⟨u, t, f', o', g', e, eu, et, u0', u1', un, ub⟩ := okv_leaf oki (by omega) (by omega) (by omega) hdi
            have val := booleanVal p.n p.kidf (byteI c :: (x ++ bh)) k bh hdr i hi u eu u0' u1' (by rw [← hki]; exact un) (fun hh => ub (by omega))
            rw [e, hki]
            have e2 : lv 1 (fun j => if booleanV (byteI c :: (x ++ bh)) k j = true then 1 else 0) i = .mk 1 u .empty 0 (fun _ => .nul) 0 0 (fun _ => .nul) := by
              show ValT.mk 1 (if booleanV (byteI c :: (x ++ bh)) k i = true then 1 else 0) .empty 0 (fun _ => .nul) 0 0 (fun _ => .nul) = _
              rw [val]
            rw [e2]
            exact sameLeaf2 u0 1 u .empty (fun _ => .nul) 0 (fun _ => .nul) t f' o' g' (by rw [et]; simp)
      · by_cases hN : p.kind = 23 ∧ p.n = 0
        · rcases hd with ⟨m, hm, h⟩ | h
          · exact booleanfN u0 p fs bh ct _ _ _ ⟨hN, dd _ _ ao, h, h1, hs, lo, hz, trivial⟩
          · exact booleanfN u0 p fs bh ct _ _ _ ⟨hN, dd _ _ ao, h, h1, hs, lo, hz, trivial⟩
        · have hN' : p.kind = 23 → ¬p.n = 0 := fun a b => hN ⟨a, b⟩
          rcases hd with ⟨m, hm, h⟩ | h
          · exact booleanfM u0 p fs bh ct _ ⟨booleanNo u0 _ (by rw [List.length_take]; omega) (.inl (cutNo m hm)), hN', dd _ _ ao, h, h1, hs, lo, hz, trivial⟩
          · refine booleanfC u0 p fs bh ct _ ⟨booleanNo u0 _ (by rw [List.cons_append]; omega) ?_, hN', dd _ _ ao, h, h1, hs, lo, hz, trivial⟩
            rw [List.cons_append]
            by_cases hk : p.kind = 23
            · obtain ⟨b, hb, hA, hC⟩ := hP.2.2.2.2.2 hk
              have ebl : b.length ≤ 262204000 := by rcases hC with ⟨_, e, _⟩ | ⟨_, e⟩ <;> (rw [e] at hl; simp at hl; omega)
              have hh := (hdArr u0 p.n b x c hC ebl hn).1 bh hbl
              by_cases hfew : b.length < p.n
              · exact .inl (hh.2 hfew)
              · obtain ⟨k, hk9, hy, hdr⟩ := hh.1 (by omega)
                have hne : ∃ y z, b = y :: z ∧ ¬((y.toNat : Nat) : Int) = 86 ∧ ¬((y.toNat : Nat) : Int) = 65 ∧ ¬((y.toNat : Nat) : Int) = 66 := by
                  have hom : ∀ i, i < p.n → (p.kidf i).kind = (p.kidf 0).kind ∧ (p.kidf i).nd = (p.kidf 0).nd := by
                    cases p with
                    | nul => exact absurd hk (by decide)
                    | mk k u t n f o d g => exact (kidsOk hok).1 hk
                  have hkd : 0 ≤ (p.kidf 0).kind ∧ (p.kidf 0).kind < 24 := by
                    cases p with
                    | nul => exact absurd hk (by decide)
                    | mk k u t n f o d g => exact fits_kind (ValT.okv.fits ((kidsOk hok).2.1 0 (by have := hN' hk; show 0 < n; have : ¬n = 0 := this; omega)))
                  have hn0 : 0 < p.n := by have := hN' hk; omega
                  rcases hA with ⟨_, _, r, rfl⟩ | ⟨hnd, c', X, rfl, hc, hc0, _⟩
                  · exact ⟨0, r, rfl, by decide⟩
                  · refine ⟨_, X, rfl, ?_⟩
                    have ea : arrOf p.n p.kidf p.kof = (p.kidf 0).kind := by unfold arrOf; rw [if_pos hn0]
                    rw [ea] at hc
                    have hkne : (p.kidf 0).kind ≠ 1 := fun e => wrong ⟨hk, fun e0 => absurd e0 (hN' hk), fun i hi => ⟨by rw [(hom i hi).1, e], by rw [(hom i hi).2]; exact Nat.eq_zero_of_not_pos fun h => hnd ⟨hn0, h⟩⟩⟩
                    have cn0 := codes_ne 1 86 _ hkd.1 hkd.2 (by decide) hkne
                    have cn1 := codes_ne 1 65 _ hkd.1 hkd.2 (by decide) hkne
                    have cn2 := codes_ne 1 66 _ hkd.1 hkd.2 (by decide) hkne
                    have cl := codes_lt _ hkd.1 hkd.2
                    rw [byteI_eq (by omega) (by omega)]
                    omega
                obtain ⟨y, z, rfl, hyc⟩ := hne
                refine .inr ⟨p.n, k, hn, hk9, hy, ?_, ?_⟩
                · rw [at_drop (by rw [hdr]; rfl)]; exact hyc
                · have e : ((byteI c :: (x ++ bh)).drop k).length = _ := List.length_drop
                  rw [hdr, List.cons_append, List.length_cons (a := y)] at e
                  omega
            · exact .inl (hdCode u0 _ _ (by omega) (nocode hk).1 (nocode hk).2)
  · exact booleanfZ u0 p fs bh ct ⟨zzNo (gR u0) p fs bh ct hb, trivial⟩
end Go.Ax
