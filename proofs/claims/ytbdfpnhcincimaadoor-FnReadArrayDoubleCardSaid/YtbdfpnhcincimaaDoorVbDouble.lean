/-
  laws.FnReadArrayDouble: what the function computes.
-/
import Derived.Test.YtbdfpnhcincimaaDoorVaU
import Derived.Test.YtbdfpnhcincimaaDoorWk
import Derived.Test.YtbdfpnhcincimaaDoorRbDouble
import Derived.Test.YtbdfpnhcincimaaDoorRrDouble
import Derived.Test.YtbdfpnhcincimaaDoorRlDouble
import Derived.Test.YtbdfpnhcincimaaDoorBx8
set_option linter.unusedVariables false
set_option linter.unusedSimpArgs false
set_option maxRecDepth 100000
set_option maxHeartbeats 1000000
namespace Go.Ax
open Go.Proofs

theorem idle69 : IdleD Tryd.prog 69 := idle_of2 (fn := Tryd.f69) Tryd.func69 (by kernel_rfl) (by kernel_rfl) (fun ρ => by kernel_rfl) (by kernel_rfl)

/-- The numbers behind a place. -/
def doubleV (bs : List UInt8) (k j : Nat) : Nat := beN bs (k + 1 + 8 * j) 8

theorem be8B (G : Env) (bs : List UInt8) (off len : Nat) (h : off + 8 ≤ bs.length) (hl : 8 ≤ len) : ACalls Tryd.prog G 97 [.agg [], .own 0 off len none] [.bytes 5 bs] (.lit (.int .u64 (beN bs off 8))) [.bytes 5 bs] := by
  have e : or8 (bs.getD (off + 0) 0) (bs.getD (off + 1) 0) (bs.getD (off + 2) 0) (bs.getD (off + 3) 0) (bs.getD (off + 4) 0) (bs.getD (off + 5) 0) (bs.getD (off + 6) 0) (bs.getD (off + 7) 0) = (beN bs off 8 : Int) := by rw [or8_eq]; simp only [beN]; omega
  rw [← e]
  exact ((bx8 bs off len (by simp only [AllP]; repeat' (first | exact trivial | with_reducible apply And.intro | omega))).cast rfl rfl (by kernel_rfl) rfl).anyG G

theorem doubleLoop (u0 : Nat) (bs : List UInt8) (k n : Nat) (hn : n ≤ 1000000) (hl : k + 1 + 8 * n ≤ bs.length) : ∀ (m i : Nat), n - i = m → i ≤ n →
    LoopC Tryd.prog (gR u0) 77 (loopAt Tryd.f70 0) [(0, .ptr 0 0), (8, .own 1 (k + 1) (8 * n) none), (10, .own 2 0 n (some n)), (11, iL (8 * i : Nat)), (57, iL n), (58, iL i)] [.cells 117 1 [nL], .bytes 5 bs, .cells 118 1 (Fill.floats (doubleV bs k) n i)] (.exit 0)
      [(0, .ptr 0 0), (10, .own 2 0 n (some n))] [.cells 117 1 [nL], .bytes 5 bs, .cells 118 1 (Fill.floats (doubleV bs k) n n)]
  | 0, i, hm, hi => by
    obtain rfl : i = n := by omega
    exact LoopC.exit ((doubleX u0 bs k i i (doubleV bs k) ⟨by simp, trivial⟩).cast rfl rfl rfl (by rw [Fill.floats_ren])) (by simp)
  | m + 1, i, hm, hi => by
    have st := doubleL u0 bs k n i (doubleV bs k) (doubleV bs k i : Int) ⟨by simp; omega, by omega, be8B (gR u0) bs (k + 1 + 8 * i) (8 * n - 8 * i) (by omega) (by omega), by rw [Int.toNat_natCast, Int.toNat_natCast, Nat.mul_one]; exact leAll_refl _, ⟨by omega, by omega, .inl (by omega)⟩, by simp; omega, trivial⟩
    rw [wrapI i (by omega), show IntKind.i64.wrap (((8 * i : Nat) : Int) + 8) = ((8 * (i + 1) : Nat) : Int) by rw [wrap64 (by omega) (by omega)]; omega] at st
    refine LoopC.step (st.cast rfl rfl rfl ?_) (doubleLoop u0 bs k n hn hl m (i + 1) (by omega) (by omega))
    rw [Int.toNat_natCast, Int.toNat_natCast, Nat.zero_add, Nat.mul_one]
    rw [Fill.floats_set (doubleV bs k) n i, Fill.floats_ren]

theorem doubleUG (u0 n k : Nat) (bs : List UInt8) (h0 : 0 < n) (hn : n ≤ 1000) (hl : bs.length ≤ 400000000) (hk : k ≤ 9) (hh : HdYes u0 bs n k) (hc : (((bs[k]?.getD 0).toNat : Nat) : Int) = 130) (he : k + 1 + 8 * n ≤ bs.length) :
    AR u0 70 [.ptr 0 0, .ptr 1 0] [.cells 117 1 [nL], bF 2 bs 0, .bytes 5 bs] nI [.cells 117 1 [.ro 1 n (fun j => [.lit (.float .f64 (doubleV bs k j))])], .cells 78 2 [.own 2 0 bs.length none, iL ((k + 1 + 8 * n : Nat) : Int)], .bytes 5 bs] := by
  have t := tyk u0 bs (by omega) k (by omega) ⟨by omega, by omega, trivial⟩
  rw [hc] at t
  have x := (nxt u0 bs (by omega) (k + 1) (8 * n) (by omega) (by omega) ⟨by omega, by omega, trivial⟩).cast (args' := [.ptr 0 0, iL (8 * n : Nat)]) (H0 := bK bs ((k : Int) + 1)) (ret' := .tup [.own 1 (k + 1) (8 * n) none, bL true]) (H1 := bK bs ((k : Int) + 1 + (8 * n : Nat))) rfl rfl
    (by rw [show ((((k + 1 : Nat) : Int) + ((8 * n : Nat) : Int)).toNat - (k + 1)) = 8 * n by omega]) rfl
  have lp := (doubleLoop u0 bs k n (by omega) he n 0 rfl (by omega)).code
  have z : repL [AV.lit (.float .f64 0)] n = Fill.floats (doubleV bs k) n 0 := Fill.floats_zero (doubleV bs k) n
  have a := doubleG u0 bs k n h0 (doubleV bs k) ⟨by rw [z]; exact lp, by rw [z, Fill.floats_ren]; exact RowLe.refl _, ⟨by omega, by omega⟩, h0, x, by rw [show IntKind.i64.wrap ((n : Int) * 8) = ((8 * n : Nat) : Int) by rw [wrap64 (by omega) (by omega)]; omega]; exact Le.refl _, t, hh, trivial⟩
  have a2 := (a.freezeRet 3 rfl (by show AV.closedL (Fill.floats (doubleV bs k) n n) = true; simp)).only [0, 1, 2] rfl
  refine a2.leOut ⟨RowLe_cell (Le_ro fun i hi => Fill.floats_slice (doubleV bs k) n i hi), ?_, RowLe.refl _, trivial⟩
  have e : ((k : Int) + 1 + (8 * n : Nat)) = ((k + 1 + 8 * n : Nat) : Int) := by omega
  show RowLe (.cells 78 2 [.own 2 0 bs.length none, iL ((k : Int) + 1 + (8 * n : Nat))]) _
  rw [e]
  exact RowLe.refl _

theorem doubleUZ (u0 k : Nat) (bs : List UInt8) (hl : bs.length ≤ 400000000) (hk : k ≤ 9) (hh : HdYes u0 bs 0 k) (hc : (((bs[k]?.getD 0).toNat : Nat) : Int) = 130) (he : k + 1 ≤ bs.length) :
    AR u0 70 [.ptr 0 0, .ptr 1 0] [.cells 117 1 [nL], bF 2 bs 0, .bytes 5 bs] nI [.cells 117 1 [nL], .cells 78 2 [.own 2 0 bs.length none, iL ((k + 1 : Nat) : Int)], .bytes 5 bs] := by
  have t := tyk u0 bs (by omega) k (by omega) ⟨by omega, by omega, trivial⟩
  rw [hc] at t
  have x := (nxt u0 bs (by omega) (k + 1) 0 (by omega) (by omega) ⟨by omega, by omega, trivial⟩).cast (args' := [.ptr 0 0, iL 0]) (H0 := bK bs ((k : Int) + 1)) (ret' := .tup [.own 1 (k + 1) 0 none, bL true]) (H1 := bK bs ((k : Int) + 1)) rfl rfl
    (by rw [show ((((k + 1 : Nat) : Int) + ((0 : Nat) : Int)).toNat - (k + 1)) = 0 by omega]) (by rw [show (((k + 1 : Nat) : Int) + ((0 : Nat) : Int)) = (k : Int) + 1 by omega])
  exact doubleZ u0 bs k ⟨x, t, hh, trivial⟩

/-- Another type. -/
theorem doubleUT (u0 n k : Nat) (bs : List UInt8) (hl : bs.length ≤ 400000000) (hk : k ≤ 9) (hh : HdYes u0 bs n k) (hc : ¬(((bs[k]?.getD 0).toNat : Nat) : Int) = 130) (he : k + 1 ≤ bs.length) :
    ∃ t k' : Nat, AR u0 70 [.ptr 0 0, .ptr 1 0] [.cells 117 1 [nL], bF 2 bs 0, .bytes 5 bs] (.ifc t .dead) [.cells 117 1 [nL], .cells 78 2 [.own 2 0 bs.length none, iL k'], .bytes 5 bs] := by
  have t := tyk u0 bs (by omega) k (by omega) ⟨by omega, by omega, trivial⟩
  have a := doubleT u0 bs k n _ ⟨hc, t, hh, trivial⟩
  have a2 := (a.le (ret' := .ifc 162 .dead) (leAll_refl _) (Le_ifcd _ _) rfl).only [0, 1, 2] rfl
  exact ⟨162, k + 1, a2⟩

theorem doubleNo (u0 : Nat) (bs : List UInt8) (hl : bs.length ≤ 400000000) (h : HdNo u0 bs ∨ ∃ n k, k ≤ 9 ∧ HdYes u0 bs n k ∧ (¬(((bs[k]?.getD 0).toNat : Nat) : Int) = 130) ∧ k + 1 ≤ bs.length) :
    AR u0 34 [.bts bs] [] (.tup [nL, nL, bL false]) [] := by
  have key : ∃ t k' : Nat, AR u0 70 [.ptr 0 0, .ptr 1 0] [.cells 117 1 [nL], bF 2 bs 0, .bytes 5 bs] (.ifc t .dead) [.cells 117 1 [nL], .cells 78 2 [.own 2 0 bs.length none, iL k'], .bytes 5 bs] := by
    rcases h with ⟨t, k, h⟩ | ⟨n, k, hk, hh, hc, he⟩
    · exact ⟨t, k, doubleN u0 bs k t ⟨h, trivial⟩⟩
    · exact doubleUT u0 n k bs hl hk hh hc he
  obtain ⟨t, k, key⟩ := key
  exact doubleRN u0 bs (by omega) k t ⟨key, by omega, idle69, trivial⟩

theorem doubleRLoop (u0 : Nat) (bs : List UInt8) (k n : Nat) (g : Nat → Nat) (h0 : 0 < n) (hn : n ≤ 1000000) : CodeC Tryd.prog (gR u0) 34 (.loop (loopAt Tryd.f34 0))
    [(2, .ptr 0 0), (3, .ptr 1 0), (4, .ptr 2 0), (5, .ptr 3 0), (7, nI), (15, .ro 1 n (fun j => [.lit (.float .f64 (g j))])), (16, iL n), (17, iL 0)] [.cells 66 1 [nL], .cells 26 1 [nL], .cells 4 1 [bL false], .cells 78 2 [.own 4 0 bs.length none, iL k], .bytes 5 bs] (.exit 0)
    [(2, .ptr 0 0), (3, .ptr 1 0), (4, .ptr 2 0), (5, .ptr 3 0), (7, nI)] [.cells 66 1 [.own 5 0 n none], .cells 26 1 [nL], .cells 4 1 [bL false], .cells 78 2 [.own 4 0 bs.length none, iL k], .bytes 5 bs, .cells 22 1 (Fill.ints .u64 (fun j => (g j : Int)) n n)] :=
  growNil (P := Tryd.prog) (G := gR u0) (k := 5) (n := 34) (c := loopAt Tryd.f34 0) (N := n) (ex := .exit 0)
    (fun i _ => [(2, .ptr 0 0), (3, .ptr 1 0), (4, .ptr 2 0), (5, .ptr 3 0), (7, nI), (15, .ro 1 n (fun j => [.lit (.float .f64 (g j))])), (16, iL n), (17, iL i)])
    (fun _ => [(2, .ptr 0 0), (3, .ptr 1 0), (4, .ptr 2 0), (5, .ptr 3 0), (7, nI)])
    (fun w => [.cells 66 1 [w], .cells 26 1 [nL], .cells 4 1 [bL false], .cells 78 2 [.own 4 0 bs.length none, iL k], .bytes 5 bs])
    (fun i => .cells 22 1 (Fill.ints .u64 (fun j => (g j : Int)) i i)) (fun i => i) (by simp) [some 0, some 1, some 2, some 3, some 4, some 6] nL h0
    (doubleR0 u0 bs k n 0 g ⟨by omega, by simp; omega, trivial⟩)
    (fun i hi0 hi => by
      have st := doubleRL u0 bs k n i g ⟨⟨by omega, by omega, rfl⟩, by omega, by simp; omega, trivial⟩
      rw [wrapI i (by omega), Int.toNat_natCast, Fill.ints_take, Fill.ints_succ .u64 (fun j => (g j : Int)), Fill.ints_ren] at st
      exact st)
    ((doubleRX u0 bs k n n g ⟨by simp, trivial⟩).cast rfl rfl rfl (by rw [Fill.ints_ren]; rfl))
    (fun i hi => rfl) (fun i hi => rfl)
    (fun i hi => congrArg (fun x => [Row.cells 66 1 [.own 5 0 (i + 1) none], .cells 26 1 [nL], .cells 4 1 [bL false], .cells 78 2 [.own 4 0 bs.length none, iL k], .bytes 5 bs, .cells 22 1 x]) (Fill.ints_ren _ _ _ _ _))
    [some 0, some 1, some 2, some 3, some 4, some 5] rfl rfl rfl rfl
    (fun i => congrArg (fun x => [Row.cells 66 1 [.own 5 0 i none], .cells 26 1 [nL], .cells 4 1 [bL false], .cells 78 2 [.own 4 0 bs.length none, iL k], .bytes 5 bs, .cells 22 1 x]) (Fill.ints_ren _ _ _ _ _)) rfl

theorem restOf (bs r : List UInt8) (k : Nat) (h : bs.drop k = r) : Le (.bts (((bs.drop k).drop 0).take (bs.length - k))) (.bts r) := by
  subst h
  rw [show bs.length - k = (bs.drop k).length by simp]
  exact Le_take _

theorem doubleYes (u0 n k : Nat) (bs r : List UInt8) (h0 : 0 < n) (hn : n ≤ 1000) (hl : bs.length ≤ 400000000) (hk : k ≤ 9) (hh : HdYes u0 bs n k) (hc : (((bs[k]?.getD 0).toNat : Nat) : Int) = 130) (he : k + 1 + 8 * n ≤ bs.length) (hr : bs.drop (k + 1 + 8 * n) = r) :
    AR u0 34 [.bts bs] [] (.tup [.ro 1 n (fun j => [.lit (.int .u64 (doubleV bs k j))]), .bts r, bL true]) [] := by
  have a := doubleRG u0 bs (by omega) (k + 1 + 8 * n) n h0 (doubleV bs k) ⟨by omega, by omega, doubleRLoop u0 bs (k + 1 + 8 * n) n (doubleV bs k) h0 (by omega), doubleUG u0 n k bs h0 hn hl hk hh hc he, by omega, idle69, trivial⟩
  have a2 := ((a.freezeRet 0 rfl (by show AV.closedL (Fill.ints .u64 (fun j => (doubleV bs k j : Int)) n n) = true; simp)).freezeRet 1 rfl rfl).only [] rfl
  exact a2.le (leAll_refl _) (Le_tup ⟨Le_ro fun i hi => Fill.ints_slice .u64 (fun j => (doubleV bs k j : Int)) n i hi, restOf bs r (k + 1 + 8 * n) hr, Le.refl _, trivial⟩) rfl

theorem doubleNil (u0 k : Nat) (bs r : List UInt8) (hl : bs.length ≤ 400000000) (hk : k ≤ 9) (hh : HdYes u0 bs 0 k) (hc : (((bs[k]?.getD 0).toNat : Nat) : Int) = 130) (he : k + 1 ≤ bs.length) (hr : bs.drop (k + 1) = r) :
    AR u0 34 [.bts bs] [] (.tup [nL, .bts r, bL true]) [] := by
  have a := doubleRZ u0 bs (by omega) (k + 1) ⟨by omega, by omega, doubleUZ u0 k bs hl hk hh hc he, by omega, idle69, trivial⟩
  have a2 := (a.freezeRet 0 rfl rfl).only [] rfl
  exact a2.le (leAll_refl _) (Le_tup ⟨Le.refl _, restOf bs r (k + 1) hr, Le.refl _, trivial⟩) rfl

/-! ### The law's own loop -/
theorem doubleLawLoop (u0 : Nat) (bh y : List UInt8) (n : Nat) (f : Nat → ValT) (g : Nat → Nat) (h0 : 0 < n) (hn : n ≤ 1000000) : CodeC Tryd.prog (gR u0) 121 (.loop (loopAt Tryd.f9 0))
    [(8, bL true), (10, .bts bh), (13, kA n f), (16, .bts y), (17, bL true), (18, nL), (95, .ro 1 n (fun j => [.lit (.int .u64 (g j))])), (96, iL n), (97, iL 0)] [] (.exit 0)
    [(8, bL true), (10, .bts bh), (13, kA n f), (16, .bts y), (17, bL true), (18, .own 0 0 n none)] [.cells 25 6 (Fill.leafs 11 (fun j => (g j : Int)) n)] :=
  growNil (P := Tryd.prog) (G := gR u0) (k := 0) (n := 121) (c := loopAt Tryd.f9 0) (N := n) (ex := .exit 0)
    (fun i w => [(8, bL true), (10, .bts bh), (13, kA n f), (16, .bts y), (17, bL true), (18, w), (95, .ro 1 n (fun j => [.lit (.int .u64 (g j))])), (96, iL n), (97, iL i)])
    (fun w => [(8, bL true), (10, .bts bh), (13, kA n f), (16, .bts y), (17, bL true), (18, w)])
    (fun w => []) (fun i => .cells 25 6 (Fill.leafs 11 (fun j => (g j : Int)) i)) (fun i => i) (by simp) [some 1] nL h0
    (doublef0 u0 bh y n f 0 g ⟨by omega, by simp; omega, trivial⟩)
    (fun i hi0 hi => by
      have st := doublefL u0 bh y n f i g ⟨⟨by omega, by omega, rfl⟩, by omega, by simp; omega, trivial⟩
      rw [wrapI i (by omega), Int.toNat_natCast, Fill.leafs_take, Fill.leafs_succ 11 (fun j => (g j : Int)), Fill.leafs_ren] at st
      exact st)
    ((doublefX u0 bh y n f n g ⟨by simp, trivial⟩).cast rfl rfl rfl (by rw [Fill.leafs_ren]; rfl))
    (fun i hi => rfl) (fun i hi => rfl)
    (fun i hi => congrArg (fun x => [Row.cells 25 6 x]) (Fill.leafs_ren _ _ _ _))
    [some 0] rfl rfl rfl rfl
    (fun i => congrArg (fun x => [Row.cells 25 6 x]) (Fill.leafs_ren _ _ _ _)) rfl

theorem catM_drop (ds : Nat → List UInt8) (w : Nat) (hw : ∀ j, (ds j).length = w) : ∀ (j m i : Nat), j < m → (catM ds i m).drop (w * j) = ds (i + j) ++ catM ds (i + j + 1) (m - j - 1)
  | 0, 0, i, h => by omega
  | 0, m + 1, i, h => by rw [catM]; simp
  | j + 1, 0, i, h => by omega
  | j + 1, m + 1, i, h => by
    rw [catM, Nat.mul_succ, Nat.add_comm, ← List.drop_drop, ← hw i, List.drop_left, hw i, catM_drop ds w hw j m (i + 1) (by omega), show i + 1 + j = i + (j + 1) by omega, show m - j - 1 = m + 1 - (j + 1) - 1 by omega]
theorem catM_len (ds : Nat → List UInt8) (w : Nat) (hw : ∀ j, (ds j).length = w) : ∀ (m i : Nat), (catM ds i m).length = w * m
  | 0, i => rfl
  | m + 1, i => by rw [catM, List.length_append, hw, catM_len ds w hw m (i + 1), Nat.mul_succ]; omega
theorem beN_dr (bs : List UInt8) (off : Nat) : ∀ k, beN bs off k = beN (bs.drop off) 0 k
  | 0 => rfl
  | k + 1 => by
    rw [beN, beN, beN_dr bs off k, List.getD_eq_getElem?_getD, List.getD_eq_getElem?_getD, Nat.zero_add, List.getElem?_drop]
theorem l8 (u : Int) : (beL u 8).length = 8 := by have := beL_len u (z := 8) (by omega); omega
theorem doubleLen (n : Nat) (f : Nat → ValT) : (catM (fun j => beL (f j).num 8) 0 n).length = 8 * n := catM_len _ 8 (fun j => l8 _) n 0
theorem doubleVal (n : Nat) (f : Nat → ValT) (bs : List UInt8) (k : Nat) (r : List UInt8) (h : bs.drop k = 130 :: (catM (fun j => beL (f j).num 8) 0 n ++ r)) (i : Nat) (hi : i < n) (u : Int) (hu : (f i).num = u) (h0 : 0 ≤ u) (h1 : u < 18446744073709551616) (hn : NumOk 11 u) (hb : (11 : Int) = 1 → u ≤ 1) :
    ((doubleV bs k i : Nat) : Int) = u := by
  have hd := catM_drop (fun j => beL (f j).num 8) 8 (fun j => l8 _) i n 0 hi
  rw [Nat.zero_add, hu] at hd
  have hl := doubleLen n f
  have e : bs.drop (k + 1 + 8 * i) = beL u 8 ++ (catM (fun j => beL (f j).num 8) (i + 1) (n - i - 1) ++ r) := by
    rw [Nat.add_assoc, ← List.drop_drop, h, Nat.add_comm 1, List.drop_succ_cons, List.drop_append_of_le_length (by omega), hd, List.append_assoc]
  unfold doubleV
  rw [beN_dr, e]
  have g := beN_8 0 u (catM (fun j => beL (f j).num 8) (i + 1) (n - i - 1) ++ r) h0 h1
  rw [beN_dr] at g
  exact g

theorem doubleSample (u0 : Nat) : AR u0 33 [.own 0 0 1 none] [.cells 22 1 [.lit (.int .u64 5)]] (.tup [.bts [224, 10, 1, 130, 0, 0, 0, 0, 0, 0, 0, 5], bL true]) [.cells 22 1 [.lit (.int .u64 5)]] := by
  have i38 : IdleD Tryd.prog 38 := idle_of2 (fn := Tryd.f38) Tryd.func38 (by kernel_rfl) (by kernel_rfl) (fun ρ => by kernel_rfl) (by kernel_rfl)
  have a := doubleW u0 ⟨i38, trivial⟩
  exact (a.freezeRet 1 rfl rfl).only [0] rfl

theorem doubleOne (u0 : Nat) : AR u0 34 [.bts [224, 10, 1, 130, 0, 0, 0, 0, 0, 0, 0, 5]] [] (.tup [.ro 1 1 (fun _ => [.lit (.int .u64 5)]), .bts [], bL true]) [] := by
  have hh : HdYes u0 [224, 10, 1, 130, 0, 0, 0, 0, 0, 0, 0, 5] 1 3 := (hd8 u0 1 [130, 0, 0, 0, 0, 0, 0, 0, 5] [] (by decide) (by decide) (by decide)).1 (by decide)
  have y := doubleYes u0 1 3 [224, 10, 1, 130, 0, 0, 0, 0, 0, 0, 0, 5] [] (by decide) (by decide) (by decide) (by decide) hh rfl (by decide) rfl
  exact y.le (leAll_refl _) (Le_tup ⟨Le_ro fun i hi => by obtain rfl : i = 0 := by omega
                                                          rfl, Le.refl _, Le.refl _, trivial⟩) rfl

/-- What such an array's elements are. -/
theorem doubleEls {n : Nat} {f : Nat → ValT} {o : Int} {b : List UInt8} (h : ArrF n f o b) (hn : n ≤ 1000) (hf : ∀ i, i < n → (f i).kind = 11 ∧ (f i).nd = 0) (ho : n = 0 → o = 11) : b = 130 :: catM (fun j => beL (f j).num 8) 0 n := by
  rcases h with ⟨h0, h1, _⟩ | ⟨_, c, X, rfl, hc, hc0, _, ds, rfl, hd⟩
  · have := (hf 0 h0).2; omega
  · have hk : arrOf n f o = 11 := by
      unfold arrOf
      split
      · exact (hf 0 (by omega)).1
      · exact ho (by omega)
    rw [hk] at hc
    have e1 : codeOf 11 = 130 := rfl
    have e2 : shortOf 11 = 0 := rfl
    obtain rfl : c = 130 := by omega
    congr 1
    refine catM_congr n 0 fun j h1 h2 => ?_
    have := hd j (by omega) (by rw [(hf j (by omega)).1]; omega)
    rw [(hf j (by omega)).1] at this
    rcases this with ⟨h, _⟩ | ⟨h, _⟩ | ⟨_, h⟩ | ⟨h, _⟩ | ⟨h, _⟩ | ⟨h, _⟩ | ⟨h, _⟩
    · omega
    · omega
    · rcases h with ⟨_, h⟩ | ⟨h, _⟩ | ⟨h, _⟩ | ⟨h, _⟩ | ⟨h, _⟩ | ⟨h, _⟩ | ⟨h, _⟩
      · exact h
      all_goals omega
    all_goals omega

theorem fnReadArrayDoubleC (u0 : Nat) (p : ValT) (hw : p.wf) (fs : Int) (bh : List UInt8) (ct : Int) (hct : ct < 9223372036854775808) : ACalls Tryd.prog (gR u0) 9 [hAV p fs bh ct] [] (.lit (.bool true)) [] := by
  by_cases hb : bh.length ≤ 2147483647
  · have hz := zzYes (gR u0) p fs bh ct hb
    have hs := doubleSample u0
    have h1 := doubleOne u0
    have lo : Le (AV.own 0 0 1 (some 1)) (AV.own 0 0 1 none) := Le_cap 0 0 1 (some 1)
    have dd : ∀ (a : AV) (r : Bool), AR u0 27 [.agg (vcl p), iL 11] [] (.tup [a, bL r]) [] → AR u0 27 [.agg (vcl p), iL 11] [] (.tup [.dead, bL r]) [] := fun a r h =>
      h.le (leAll_refl _) (Le_tup ⟨Le.dead _, Le.refl _, trivial⟩) rfl
    rcases dataB (validR u0) p hw fs bh ct hct with h | ⟨out, ha, hd⟩
    · have hn : p.n ≤ 9223372036854775807 := by
        cases p with
        | nul => exact Nat.zero_le _
        | mk k u t n f o d g => have := hw.2.2.1; exact this
      rcases arrOfV u0 p 11 hn with ⟨_, ao⟩ | ⟨_, ao⟩
      · exact doublefA u0 p fs bh ct true ⟨dd _ _ ao, h, h1, hs, lo, hz, trivial⟩
      · exact doublefA u0 p fs bh ct false ⟨dd _ _ ao, h, h1, hs, lo, hz, trivial⟩
    · obtain ⟨c, x, he, c0, c1, ck, hP⟩ := ha.head
      have hl := ha.len
      have hbl := ha.bh
      have hbc := byteI_eq (c := c) (by omega) c1
      have hok := ha.ok
      subst he
      have hn : p.n ≤ 1000 := by
        cases p with
        | nul => exact Nat.zero_le _
        | mk k u t n f o d g => exact (kidsOk hok).2.2.1
      have nocode : p.kind ≠ 23 → ¬((byteI c).toNat : Int) = 240 ∧ ¬((byteI c).toNat : Int) = 224 := fun h => by
        rw [hbc]
        refine ⟨fun e => h ?_, fun e => h ?_⟩ <;> (rw [← ck, e]; rfl)
      have cutNo : ∀ m, m < (byteI c :: x).length → HdNo u0 ((byteI c :: x).take m) := fun m hm => by
        cases m with
        | zero => exact hdEmpty u0
        | succ m =>
          rw [List.take_succ_cons]
          by_cases hk : p.kind = 23
          · obtain ⟨b, hb, hA, hC⟩ := hP.2.2.2.2.2 hk
            exact (hdArr u0 p.n b x c hC (by rcases hC with ⟨_, e, _⟩ | ⟨_, e⟩ <;> (rw [e] at hl; simp at hl; omega)) hn).2 m (by simpa using hm)
          · exact hdCode u0 _ _ (by rw [List.length_cons, List.length_take]; simp only [List.length_cons] at hl; omega) (nocode hk).1 (nocode hk).2
      have len2 : (byteI c :: (x ++ bh)).length ≤ 300000000 := by simp only [List.length_cons, List.length_append] at hl ⊢; omega
      rcases arrOfV u0 p 11 (by omega) with ⟨right, ao⟩ | ⟨wrong, ao⟩
      · rcases hd with ⟨m, hm, h⟩ | h
        · exact doublefB u0 p fs bh ct _ true ⟨doubleNo u0 _ (by rw [List.length_take]; omega) (.inl (cutNo m hm)), ⟨rfl, trivial, trivial⟩, rfl, dd _ _ ao, h, h1, hs, lo, hz, trivial⟩
        · obtain ⟨hk, hof, hkids⟩ := right
          obtain ⟨b, hb, hA, hC⟩ := hP.2.2.2.2.2 hk
          have eb := doubleEls hA hn hkids hof
          have ebl : b.length ≤ 262204000 := by rcases hC with ⟨_, e, _⟩ | ⟨_, e⟩ <;> (rw [e] at hl; simp at hl; omega)
          have hcl := doubleLen p.n p.kidf
          obtain ⟨k, hk9, hh, hdr⟩ := ((hdArr u0 p.n b x c hC ebl hn).1 bh hbl).1 (by rw [eb, List.length_cons]; omega)
          rw [eb, List.cons_append] at hdr
          have hlen : ((byteI c :: (x ++ bh)).drop k).length = _ := List.length_drop
          rw [hdr, List.length_cons (a := 130), List.length_append (bs := bh)] at hlen
          have hck : ((((byteI c :: (x ++ bh))[k]?.getD 0).toNat : Nat) : Int) = 130 := by rw [at_drop hdr]; rfl
          have hdr2 : (byteI c :: (x ++ bh)).drop (k + 1 + 8 * p.n) = bh := by
            rw [Nat.add_assoc, ← List.drop_drop, hdr, Nat.add_comm 1, List.drop_succ_cons, List.drop_append, List.drop_eq_nil_of_le (by omega), List.nil_append, show 8 * p.n - (catM (fun j => beL (p.kidf j).num 8) 0 p.n).length = 0 by omega]
            rfl
          by_cases h0 : p.n = 0
          · rw [h0] at ao hh hdr2
            have y := doubleNil u0 k _ bh (by omega) hk9 hh hck (by omega) (by simpa using hdr2)
            exact (doublefE u0 p fs bh ct _ bh p.kidf ⟨sameNil u0 _, y, ao, h, h1, hs, lo, hz, trivial⟩).cast rfl rfl (by simp) rfl
          · have y := doubleYes u0 p.n k _ bh (by omega) hn (by omega) hk9 hh hck (by omega) (by simpa using hdr2)
            refine (doublefD u0 p fs bh ct _ bh p.n p.kidf (by omega) _ ⟨sameLeafs u0 p.n p.kidf 11 _ (by omega) fun i hi => ?_, doubleLawLoop u0 bh bh p.n p.kidf _ (by omega) (by omega), y, ao, h, h1, hs, lo, hz, trivial⟩).cast rfl rfl (by simp) rfl
            obtain ⟨hki, hdi⟩ := hkids i hi
            have oki : (p.kidf i).okv := by
              cases p with
              | nul => exact absurd h0 (by simp [ValT.n])
              | mk k u t n f o d g => exact (kidsOk hok).2.1 i hi
            obtain ⟨u, t, f', o', g', e, eu, et, u0', u1', un, ub⟩ := okv_leaf oki (by omega) (by omega) (by omega) hdi
            have val := doubleVal p.n p.kidf (byteI c :: (x ++ bh)) k bh hdr i hi u eu u0' u1' (by rw [← hki]; exact un) (fun hh => ub (by omega))
            rw [e, hki]
            have e2 : lv 11 (fun j => ((doubleV (byteI c :: (x ++ bh)) k j : Nat) : Int)) i = .mk 11 u .empty 0 (fun _ => .nul) 0 0 (fun _ => .nul) := by
              show ValT.mk 11 (((doubleV (byteI c :: (x ++ bh)) k i : Nat) : Int)) .empty 0 (fun _ => .nul) 0 0 (fun _ => .nul) = _
              rw [val]
            rw [e2]
            exact sameLeaf2 u0 11 u .empty (fun _ => .nul) 0 (fun _ => .nul) t f' o' g' (by rw [et]; simp)
      · by_cases hN : p.kind = 23 ∧ p.n = 0
        · rcases hd with ⟨m, hm, h⟩ | h
          · exact doublefN u0 p fs bh ct _ _ _ ⟨hN, dd _ _ ao, h, h1, hs, lo, hz, trivial⟩
          · exact doublefN u0 p fs bh ct _ _ _ ⟨hN, dd _ _ ao, h, h1, hs, lo, hz, trivial⟩
        · have hN' : p.kind = 23 → ¬p.n = 0 := fun a b => hN ⟨a, b⟩
          rcases hd with ⟨m, hm, h⟩ | h
          · exact doublefM u0 p fs bh ct _ ⟨doubleNo u0 _ (by rw [List.length_take]; omega) (.inl (cutNo m hm)), hN', dd _ _ ao, h, h1, hs, lo, hz, trivial⟩
          · refine doublefC u0 p fs bh ct _ ⟨doubleNo u0 _ (by rw [List.cons_append]; omega) ?_, hN', dd _ _ ao, h, h1, hs, lo, hz, trivial⟩
            rw [List.cons_append]
            by_cases hk : p.kind = 23
            · obtain ⟨b, hb, hA, hC⟩ := hP.2.2.2.2.2 hk
              have ebl : b.length ≤ 262204000 := by rcases hC with ⟨_, e, _⟩ | ⟨_, e⟩ <;> (rw [e] at hl; simp at hl; omega)
              have hh := (hdArr u0 p.n b x c hC ebl hn).1 bh hbl
              by_cases hfew : b.length < p.n
              · exact .inl (hh.2 hfew)
              · obtain ⟨k, hk9, hy, hdr⟩ := hh.1 (by omega)
                have hne : ∃ y z, b = y :: z ∧ ¬((y.toNat : Nat) : Int) = 130 := by
                  have hom : ∀ i, i < p.n → (p.kidf i).kind = (p.kidf 0).kind ∧ (p.kidf i).nd = (p.kidf 0).nd := by
                    cases p with
                    | nul => exact absurd hk (by decide)
                    | mk k u t n f o d g => exact (kidsOk hok).1 hk
                  have hkd : 0 ≤ (p.kidf 0).kind ∧ (p.kidf 0).kind < 24 := by
                    cases p with
                    | nul => exact absurd hk (by decide)
                    | mk k u t n f o d g => exact fits_kind (ValT.okv.fits ((kidsOk hok).2.1 0 (by have := hN' hk; show 0 < n; have : ¬n = 0 := this; omega)))
                  have hn0 : 0 < p.n := by have := hN' hk; omega
                  rcases hA with ⟨_, _, r, rfl⟩ | ⟨hnd, c', X, rfl, hc, hc0, _⟩
                  · exact ⟨0, r, rfl, by decide⟩
                  · refine ⟨_, X, rfl, ?_⟩
                    have ea : arrOf p.n p.kidf p.kof = (p.kidf 0).kind := by unfold arrOf; rw [if_pos hn0]
                    rw [ea] at hc
                    have hkne : (p.kidf 0).kind ≠ 11 := fun e => wrong ⟨hk, fun e0 => absurd e0 (hN' hk), fun i hi => ⟨by rw [(hom i hi).1, e], by rw [(hom i hi).2]; exact Nat.eq_zero_of_not_pos fun h => hnd ⟨hn0, h⟩⟩⟩
                    have cn0 := codes_ne 11 130 _ hkd.1 hkd.2 (by decide) hkne
                    have cl := codes_lt _ hkd.1 hkd.2
                    rw [byteI_eq (by omega) (by omega)]
                    omega
                obtain ⟨y, z, rfl, hyc⟩ := hne
                refine .inr ⟨p.n, k, hk9, hy, ?_, ?_⟩
                · rw [at_drop (by rw [hdr]; rfl)]; exact hyc
                · have e : ((byteI c :: (x ++ bh)).drop k).length = _ := List.length_drop
                  rw [hdr, List.cons_append, List.length_cons (a := y)] at e
                  omega
            · exact .inl (hdCode u0 _ _ (by omega) (nocode hk).1 (nocode hk).2)
  · exact doublefZ u0 p fs bh ct ⟨zzNo (gR u0) p fs bh ct hb, trivial⟩
end Go.Ax
