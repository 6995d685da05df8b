/-
  laws.FnReadInteger: what the function computes.
-/
import Derived.Test.YtbdfpnhcincimaaDoorVaP
import Derived.Test.YtbdfpnhcincimaaDoorZa
import Derived.Test.YtbdfpnhcincimaaDoorZb
import Derived.Test.YtbdfpnhcincimaaDoorZc
import Derived.Test.YtbdfpnhcincimaaDoorZd
import Derived.Test.YtbdfpnhcincimaaDoorZ8
set_option linter.unusedVariables false
set_option linter.unusedSimpArgs false
set_option maxRecDepth 100000
set_option maxHeartbeats 1000000
namespace Go.Ax
open Go.Proofs

theorem idle42 : IdleD Tryd.prog 42 := idle_of2 (fn := Tryd.f42) Tryd.func42 (by kernel_rfl) (by kernel_rfl) (fun ρ => by kernel_rfl) (by kernel_rfl)

abbrev bR (bs : List UInt8) : List Row := [bF 1 bs 0, .bytes 5 bs]
abbrev bK (bs : List UInt8) (k : Int) : List Row := [.cells 78 2 [.own 1 0 bs.length none, iL k], .bytes 5 bs]

theorem pk0 (u0 : Nat) (b : UInt8) (r : List UInt8) (c : Int) (hc : (b.toNat : Int) = c) (hl : (b :: r).length ≤ 400000000) : AR u0 113 [.ptr 0 0] (bR (b :: r)) (.tup [.lit (.int .u8 c), nI]) (bR (b :: r)) := by
  subst hc; exact t113 u0 (b :: r) (by omega) ⟨by simp, by simp; omega, trivial⟩
theorem ty0 (u0 : Nat) (b : UInt8) (r : List UInt8) (c : Int) (hc : (b.toNat : Int) = c) (hl : (b :: r).length ≤ 400000000) : AR u0 94 [.ptr 0 0] (bR (b :: r)) (.tup [.lit (.int .u8 c), nI]) (bK (b :: r) 1) := by
  subst hc; exact t94 u0 (b :: r) (by omega) ⟨by simp, by simp; omega, trivial⟩

theorem intCut (u0 : Nat) (bs : List UInt8) (hl : bs.length ≤ 400000000) (h : AR u0 98 [.ptr 0 0] (bR bs) (.tup [iL 0, .ifc u0 .dead]) (bK bs 1)) : AR u0 35 [.bts bs] [] (.tup [iL 0, .bts [], bL false]) [] :=
  (riE u0 bs (by omega) 0 1 ⟨rkB u0 bs 0 1 ⟨h, trivial⟩, by omega, idle42, trivial⟩).le (leAll_refl _) (Le_tup ⟨Le.refl _, Le_nil, Le.refl _, trivial⟩) rfl

theorem intGood (u0 : Nat) (bs : List UInt8) (hl : bs.length ≤ 400000000) (v : Int) (k : Nat) (hk : k ≤ bs.length) (h : AR u0 98 [.ptr 0 0] (bR bs) (.tup [iL v, nI]) (bK bs k)) : AR u0 35 [.bts bs] [] (.tup [iL v, .bts (bs.drop k), bL true]) [] := by
  have a := riK u0 bs (by omega) v k hk ⟨by omega, hk, rkA u0 bs v k ⟨h, trivial⟩, by omega, idle42, trivial⟩
  refine ((a.freezeRet 0 rfl rfl).only [] rfl).le (leAll_refl _) (Le_tup ⟨Le.refl _, ?_, Le.refl _, trivial⟩) rfl
  show Le (.bts (((bs.drop k).drop 0).take (bs.length - k))) (.bts (bs.drop k))
  rw [show bs.length - k = (bs.drop k).length by simp]
  exact Le_take _

theorem good80 (u0 : Nat) (b : UInt8) (r : List UInt8) (hc : (b.toNat : Int) = 80) (hl : (b :: r).length ≤ 400000000) (hw : 1 ≤ r.length) : AR u0 35 [.bts (b :: r)] [] (.tup [iL (IntKind.i64.wrap ((r[0]?.getD 0).toNat : Int)), .bts (r.drop 1), bL true]) [] := by
  have p := pk0 u0 b r 80 hc hl
  have t := ty0 u0 b r 80 hc hl
  have g := g103 u0 (b :: r) (by omega) ⟨by simp; omega, by simp; omega, by simp; omega, trivial⟩
  have l := la80 u0 (b :: r) _ ⟨g, t, trivial⟩
  exact intGood u0 (b :: r) hl _ 2 (by simp; omega) (rd80 u0 (b :: r) _ ⟨l, p, trivial⟩)
theorem cut80 (u0 : Nat) (b : UInt8) (r : List UInt8) (hc : (b.toNat : Int) = 80) (hl : (b :: r).length ≤ 400000000) (hw : r.length < 1) : AR u0 35 [.bts (b :: r)] [] (.tup [iL 0, .bts [], bL false]) [] :=
  intCut u0 (b :: r) hl (rx80 u0 (b :: r) ⟨lb80 u0 (b :: r) ⟨x103 u0 (b :: r) (by omega) ⟨by simp; omega, trivial⟩, ty0 u0 b r 80 hc hl, trivial⟩, pk0 u0 b r 80 hc hl, trivial⟩)

theorem good96 (u0 : Nat) (b : UInt8) (r : List UInt8) (hc : (b.toNat : Int) = 96) (hl : (b :: r).length ≤ 400000000) (hw : 2 ≤ r.length) : AR u0 35 [.bts (b :: r)] [] (.tup [iL (IntKind.i64.wrap (beN (b :: r) 1 2 : Int)), .bts (r.drop 2), bL true]) [] := by
  have p := pk0 u0 b r 96 hc hl
  have t := ty0 u0 b r 96 hc hl
  have g := g127 u0 (b :: r) (by omega) (beN (b :: r) 1 2) (by have e := be2B (gR u0) (b :: r) 1 ((b :: r).length - 1) (by simp; omega) (by simp; omega); simp only [AllP]; repeat' (first | exact trivial | with_reducible apply And.intro | exact e | (simp; done) | (simp; omega)))
  have l := la96 u0 (b :: r) _ ⟨g, t, trivial⟩
  exact intGood u0 (b :: r) hl _ 3 (by simp; omega) (rd96 u0 (b :: r) _ ⟨l, p, trivial⟩)
theorem cut96 (u0 : Nat) (b : UInt8) (r : List UInt8) (hc : (b.toNat : Int) = 96) (hl : (b :: r).length ≤ 400000000) (hw : r.length < 2) : AR u0 35 [.bts (b :: r)] [] (.tup [iL 0, .bts [], bL false]) [] :=
  intCut u0 (b :: r) hl (rx96 u0 (b :: r) ⟨lb96 u0 (b :: r) ⟨x127 u0 (b :: r) (by omega) ⟨by simp; omega, trivial⟩, ty0 u0 b r 96 hc hl, trivial⟩, pk0 u0 b r 96 hc hl, trivial⟩)

theorem good67 (u0 : Nat) (b : UInt8) (r : List UInt8) (hc : (b.toNat : Int) = 67) (hl : (b :: r).length ≤ 400000000) (hw : 0 ≤ r.length) : AR u0 35 [.bts (b :: r)] [] (.tup [iL (IntKind.i64.wrap 0), .bts (r.drop 0), bL true]) [] := by
  have p := pk0 u0 b r 67 hc hl
  have t := ty0 u0 b r 67 hc hl
  have l := la67 u0 (b :: r) ⟨t, trivial⟩
  exact intGood u0 (b :: r) hl _ 1 (by simp) (rd67 u0 (b :: r) _ ⟨l, p, trivial⟩)

theorem good82 (u0 : Nat) (b : UInt8) (r : List UInt8) (hc : (b.toNat : Int) = 82) (hl : (b :: r).length ≤ 400000000) (hw : 1 ≤ r.length) : AR u0 35 [.bts (b :: r)] [] (.tup [iL (IntKind.i64.wrap (IntKind.u32.wrap ((r[0]?.getD 0).toNat : Int))), .bts (r.drop 1), bL true]) [] := by
  have p := pk0 u0 b r 82 hc hl
  have t := ty0 u0 b r 82 hc hl
  have g := g103 u0 (b :: r) (by omega) ⟨by simp; omega, by simp; omega, by simp; omega, trivial⟩
  have l := la82 u0 (b :: r) _ ⟨g, t, trivial⟩
  exact intGood u0 (b :: r) hl _ 2 (by simp; omega) (rd82 u0 (b :: r) _ ⟨l, p, trivial⟩)
theorem cut82 (u0 : Nat) (b : UInt8) (r : List UInt8) (hc : (b.toNat : Int) = 82) (hl : (b :: r).length ≤ 400000000) (hw : r.length < 1) : AR u0 35 [.bts (b :: r)] [] (.tup [iL 0, .bts [], bL false]) [] :=
  intCut u0 (b :: r) hl (rx82 u0 (b :: r) ⟨lb82 u0 (b :: r) ⟨x103 u0 (b :: r) (by omega) ⟨by simp; omega, trivial⟩, ty0 u0 b r 82 hc hl, trivial⟩, pk0 u0 b r 82 hc hl, trivial⟩)

theorem good112 (u0 : Nat) (b : UInt8) (r : List UInt8) (hc : (b.toNat : Int) = 112) (hl : (b :: r).length ≤ 400000000) (hw : 4 ≤ r.length) : AR u0 35 [.bts (b :: r)] [] (.tup [iL (IntKind.i64.wrap (beN (b :: r) 1 4 : Int)), .bts (r.drop 4), bL true]) [] := by
  have p := pk0 u0 b r 112 hc hl
  have t := ty0 u0 b r 112 hc hl
  have g := g107 u0 (b :: r) (by omega) (beN (b :: r) 1 4) (by have e := be4B (gR u0) (b :: r) 1 ((b :: r).length - 1) (by simp; omega) (by simp; omega); simp only [AllP]; repeat' (first | exact trivial | with_reducible apply And.intro | exact e | (simp; done) | (simp; omega)))
  have l := la112 u0 (b :: r) _ ⟨g, t, trivial⟩
  exact intGood u0 (b :: r) hl _ 5 (by simp; omega) (rd112 u0 (b :: r) _ ⟨l, p, trivial⟩)
theorem cut112 (u0 : Nat) (b : UInt8) (r : List UInt8) (hc : (b.toNat : Int) = 112) (hl : (b :: r).length ≤ 400000000) (hw : r.length < 4) : AR u0 35 [.bts (b :: r)] [] (.tup [iL 0, .bts [], bL false]) [] :=
  intCut u0 (b :: r) hl (rx112 u0 (b :: r) ⟨lb112 u0 (b :: r) ⟨x107 u0 (b :: r) (by omega) ⟨by simp; omega, trivial⟩, ty0 u0 b r 112 hc hl, trivial⟩, pk0 u0 b r 112 hc hl, trivial⟩)

theorem good68 (u0 : Nat) (b : UInt8) (r : List UInt8) (hc : (b.toNat : Int) = 68) (hl : (b :: r).length ≤ 400000000) (hw : 0 ≤ r.length) : AR u0 35 [.bts (b :: r)] [] (.tup [iL (IntKind.i64.wrap 0), .bts (r.drop 0), bL true]) [] := by
  have p := pk0 u0 b r 68 hc hl
  have t := ty0 u0 b r 68 hc hl
  have l := la68 u0 (b :: r) ⟨t, trivial⟩
  exact intGood u0 (b :: r) hl _ 1 (by simp) (rd68 u0 (b :: r) _ ⟨l, p, trivial⟩)

theorem good83 (u0 : Nat) (b : UInt8) (r : List UInt8) (hc : (b.toNat : Int) = 83) (hl : (b :: r).length ≤ 400000000) (hw : 1 ≤ r.length) : AR u0 35 [.bts (b :: r)] [] (.tup [iL (IntKind.i64.wrap (IntKind.u64.wrap ((r[0]?.getD 0).toNat : Int))), .bts (r.drop 1), bL true]) [] := by
  have p := pk0 u0 b r 83 hc hl
  have t := ty0 u0 b r 83 hc hl
  have g := g103 u0 (b :: r) (by omega) ⟨by simp; omega, by simp; omega, by simp; omega, trivial⟩
  have l := la83 u0 (b :: r) _ ⟨g, t, trivial⟩
  exact intGood u0 (b :: r) hl _ 2 (by simp; omega) (rd83 u0 (b :: r) _ ⟨l, p, trivial⟩)
theorem cut83 (u0 : Nat) (b : UInt8) (r : List UInt8) (hc : (b.toNat : Int) = 83) (hl : (b :: r).length ≤ 400000000) (hw : r.length < 1) : AR u0 35 [.bts (b :: r)] [] (.tup [iL 0, .bts [], bL false]) [] :=
  intCut u0 (b :: r) hl (rx83 u0 (b :: r) ⟨lb83 u0 (b :: r) ⟨x103 u0 (b :: r) (by omega) ⟨by simp; omega, trivial⟩, ty0 u0 b r 83 hc hl, trivial⟩, pk0 u0 b r 83 hc hl, trivial⟩)

theorem good128 (u0 : Nat) (b : UInt8) (r : List UInt8) (hc : (b.toNat : Int) = 128) (hl : (b :: r).length ≤ 400000000) (hw : 8 ≤ r.length) : AR u0 35 [.bts (b :: r)] [] (.tup [iL (IntKind.i64.wrap (beN (b :: r) 1 8 : Int)), .bts (r.drop 8), bL true]) [] := by
  have p := pk0 u0 b r 128 hc hl
  have t := ty0 u0 b r 128 hc hl
  have g := g105 u0 (b :: r) (by omega) (beN (b :: r) 1 8) (by have e := be8A (gR u0) (b :: r) 1 (by simp; omega); simp only [AllP]; repeat' (first | exact trivial | with_reducible apply And.intro | exact e | (simp; done) | (simp; omega)))
  have l := la128 u0 (b :: r) _ ⟨g, t, trivial⟩
  exact intGood u0 (b :: r) hl _ 9 (by simp; omega) (rd128 u0 (b :: r) _ ⟨l, p, trivial⟩)
theorem cut128 (u0 : Nat) (b : UInt8) (r : List UInt8) (hc : (b.toNat : Int) = 128) (hl : (b :: r).length ≤ 400000000) (hw : r.length < 8) : AR u0 35 [.bts (b :: r)] [] (.tup [iL 0, .bts [], bL false]) [] :=
  intCut u0 (b :: r) hl (rx128 u0 (b :: r) ⟨lb128 u0 (b :: r) ⟨x105 u0 (b :: r) (by omega) ⟨by simp; omega, trivial⟩, ty0 u0 b r 128 hc hl, trivial⟩, pk0 u0 b r 128 hc hl, trivial⟩)

theorem good81 (u0 : Nat) (b : UInt8) (r : List UInt8) (hc : (b.toNat : Int) = 81) (hl : (b :: r).length ≤ 400000000) (hw : 1 ≤ r.length) : AR u0 35 [.bts (b :: r)] [] (.tup [iL (IntKind.i64.wrap (IntKind.i8.wrap ((r[0]?.getD 0).toNat : Int))), .bts (r.drop 1), bL true]) [] := by
  have p := pk0 u0 b r 81 hc hl
  have t := ty0 u0 b r 81 hc hl
  have g := g103 u0 (b :: r) (by omega) ⟨by simp; omega, by simp; omega, by simp; omega, trivial⟩
  have l := la81 u0 (b :: r) _ ⟨g, t, trivial⟩
  exact intGood u0 (b :: r) hl _ 2 (by simp; omega) (rd81 u0 (b :: r) _ ⟨l, p, trivial⟩)
theorem cut81 (u0 : Nat) (b : UInt8) (r : List UInt8) (hc : (b.toNat : Int) = 81) (hl : (b :: r).length ≤ 400000000) (hw : r.length < 1) : AR u0 35 [.bts (b :: r)] [] (.tup [iL 0, .bts [], bL false]) [] :=
  intCut u0 (b :: r) hl (rx81 u0 (b :: r) ⟨lb81 u0 (b :: r) ⟨x103 u0 (b :: r) (by omega) ⟨by simp; omega, trivial⟩, ty0 u0 b r 81 hc hl, trivial⟩, pk0 u0 b r 81 hc hl, trivial⟩)

theorem good97 (u0 : Nat) (b : UInt8) (r : List UInt8) (hc : (b.toNat : Int) = 97) (hl : (b :: r).length ≤ 400000000) (hw : 2 ≤ r.length) : AR u0 35 [.bts (b :: r)] [] (.tup [iL (IntKind.i64.wrap (IntKind.i16.wrap (beN (b :: r) 1 2 : Int))), .bts (r.drop 2), bL true]) [] := by
  have p := pk0 u0 b r 97 hc hl
  have t := ty0 u0 b r 97 hc hl
  have g := g127 u0 (b :: r) (by omega) (beN (b :: r) 1 2) (by have e := be2B (gR u0) (b :: r) 1 ((b :: r).length - 1) (by simp; omega) (by simp; omega); simp only [AllP]; repeat' (first | exact trivial | with_reducible apply And.intro | exact e | (simp; done) | (simp; omega)))
  have l := la97 u0 (b :: r) _ ⟨g, t, trivial⟩
  exact intGood u0 (b :: r) hl _ 3 (by simp; omega) (rd97 u0 (b :: r) _ ⟨l, p, trivial⟩)
theorem cut97 (u0 : Nat) (b : UInt8) (r : List UInt8) (hc : (b.toNat : Int) = 97) (hl : (b :: r).length ≤ 400000000) (hw : r.length < 2) : AR u0 35 [.bts (b :: r)] [] (.tup [iL 0, .bts [], bL false]) [] :=
  intCut u0 (b :: r) hl (rx97 u0 (b :: r) ⟨lb97 u0 (b :: r) ⟨x127 u0 (b :: r) (by omega) ⟨by simp; omega, trivial⟩, ty0 u0 b r 97 hc hl, trivial⟩, pk0 u0 b r 97 hc hl, trivial⟩)

theorem good84 (u0 : Nat) (b : UInt8) (r : List UInt8) (hc : (b.toNat : Int) = 84) (hl : (b :: r).length ≤ 400000000) (hw : 1 ≤ r.length) : AR u0 35 [.bts (b :: r)] [] (.tup [iL (IntKind.i64.wrap (IntKind.i32.wrap (IntKind.i8.wrap ((r[0]?.getD 0).toNat : Int)))), .bts (r.drop 1), bL true]) [] := by
  have p := pk0 u0 b r 84 hc hl
  have t := ty0 u0 b r 84 hc hl
  have g := g103 u0 (b :: r) (by omega) ⟨by simp; omega, by simp; omega, by simp; omega, trivial⟩
  have l := la84 u0 (b :: r) _ ⟨g, t, trivial⟩
  exact intGood u0 (b :: r) hl _ 2 (by simp; omega) (rd84 u0 (b :: r) _ ⟨l, p, trivial⟩)
theorem cut84 (u0 : Nat) (b : UInt8) (r : List UInt8) (hc : (b.toNat : Int) = 84) (hl : (b :: r).length ≤ 400000000) (hw : r.length < 1) : AR u0 35 [.bts (b :: r)] [] (.tup [iL 0, .bts [], bL false]) [] :=
  intCut u0 (b :: r) hl (rx84 u0 (b :: r) ⟨lb84 u0 (b :: r) ⟨x103 u0 (b :: r) (by omega) ⟨by simp; omega, trivial⟩, ty0 u0 b r 84 hc hl, trivial⟩, pk0 u0 b r 84 hc hl, trivial⟩)

theorem good113 (u0 : Nat) (b : UInt8) (r : List UInt8) (hc : (b.toNat : Int) = 113) (hl : (b :: r).length ≤ 400000000) (hw : 4 ≤ r.length) : AR u0 35 [.bts (b :: r)] [] (.tup [iL (IntKind.i64.wrap (IntKind.i32.wrap (beN (b :: r) 1 4 : Int))), .bts (r.drop 4), bL true]) [] := by
  have p := pk0 u0 b r 113 hc hl
  have t := ty0 u0 b r 113 hc hl
  have g := g107 u0 (b :: r) (by omega) (beN (b :: r) 1 4) (by have e := be4B (gR u0) (b :: r) 1 ((b :: r).length - 1) (by simp; omega) (by simp; omega); simp only [AllP]; repeat' (first | exact trivial | with_reducible apply And.intro | exact e | (simp; done) | (simp; omega)))
  have l := la113 u0 (b :: r) _ ⟨g, t, trivial⟩
  exact intGood u0 (b :: r) hl _ 5 (by simp; omega) (rd113 u0 (b :: r) _ ⟨l, p, trivial⟩)
theorem cut113 (u0 : Nat) (b : UInt8) (r : List UInt8) (hc : (b.toNat : Int) = 113) (hl : (b :: r).length ≤ 400000000) (hw : r.length < 4) : AR u0 35 [.bts (b :: r)] [] (.tup [iL 0, .bts [], bL false]) [] :=
  intCut u0 (b :: r) hl (rx113 u0 (b :: r) ⟨lb113 u0 (b :: r) ⟨x107 u0 (b :: r) (by omega) ⟨by simp; omega, trivial⟩, ty0 u0 b r 113 hc hl, trivial⟩, pk0 u0 b r 113 hc hl, trivial⟩)

theorem good85 (u0 : Nat) (b : UInt8) (r : List UInt8) (hc : (b.toNat : Int) = 85) (hl : (b :: r).length ≤ 400000000) (hw : 1 ≤ r.length) : AR u0 35 [.bts (b :: r)] [] (.tup [iL (IntKind.i64.wrap (IntKind.i8.wrap ((r[0]?.getD 0).toNat : Int))), .bts (r.drop 1), bL true]) [] := by
  have p := pk0 u0 b r 85 hc hl
  have t := ty0 u0 b r 85 hc hl
  have g := g103 u0 (b :: r) (by omega) ⟨by simp; omega, by simp; omega, by simp; omega, trivial⟩
  have l := la85 u0 (b :: r) _ ⟨g, t, trivial⟩
  exact intGood u0 (b :: r) hl _ 2 (by simp; omega) (rd85 u0 (b :: r) _ ⟨l, p, trivial⟩)
theorem cut85 (u0 : Nat) (b : UInt8) (r : List UInt8) (hc : (b.toNat : Int) = 85) (hl : (b :: r).length ≤ 400000000) (hw : r.length < 1) : AR u0 35 [.bts (b :: r)] [] (.tup [iL 0, .bts [], bL false]) [] :=
  intCut u0 (b :: r) hl (rx85 u0 (b :: r) ⟨lb85 u0 (b :: r) ⟨x103 u0 (b :: r) (by omega) ⟨by simp; omega, trivial⟩, ty0 u0 b r 85 hc hl, trivial⟩, pk0 u0 b r 85 hc hl, trivial⟩)

theorem good129 (u0 : Nat) (b : UInt8) (r : List UInt8) (hc : (b.toNat : Int) = 129) (hl : (b :: r).length ≤ 400000000) (hw : 8 ≤ r.length) : AR u0 35 [.bts (b :: r)] [] (.tup [iL (IntKind.i64.wrap (beN (b :: r) 1 8 : Int)), .bts (r.drop 8), bL true]) [] := by
  have p := pk0 u0 b r 129 hc hl
  have t := ty0 u0 b r 129 hc hl
  have g := g105 u0 (b :: r) (by omega) (beN (b :: r) 1 8) (by have e := be8A (gR u0) (b :: r) 1 (by simp; omega); simp only [AllP]; repeat' (first | exact trivial | with_reducible apply And.intro | exact e | (simp; done) | (simp; omega)))
  have l := la129 u0 (b :: r) _ ⟨g, t, trivial⟩
  exact intGood u0 (b :: r) hl _ 9 (by simp; omega) (rd129 u0 (b :: r) _ ⟨l, p, trivial⟩)
theorem cut129 (u0 : Nat) (b : UInt8) (r : List UInt8) (hc : (b.toNat : Int) = 129) (hl : (b :: r).length ≤ 400000000) (hw : r.length < 8) : AR u0 35 [.bts (b :: r)] [] (.tup [iL 0, .bts [], bL false]) [] :=
  intCut u0 (b :: r) hl (rx129 u0 (b :: r) ⟨lb129 u0 (b :: r) ⟨x105 u0 (b :: r) (by omega) ⟨by simp; omega, trivial⟩, ty0 u0 b r 129 hc hl, trivial⟩, pk0 u0 b r 129 hc hl, trivial⟩)

/-- How many bytes a number has behind its code; -1: none. -/
def wid (c : Int) : Int := mgetI [(80, 1), (96, 2), (67, 0), (82, 1), (112, 4), (68, 0), (83, 1), (128, 8), (81, 1), (97, 2), (84, 1), (113, 4), (85, 1), (129, 8)] c (-1)

theorem mgetI_ne {k v n z : Int} {l : List (Int × Int)} (h : ¬n = k) : mgetI ((k, v) :: l) n z = mgetI l n z := by
  show (bif k == n then v else mgetI l n z) = _
  rw [show (k == n) = false by simp; omega]; rfl

theorem wid_cases (c : Int) : c = 80 ∨ c = 96 ∨ c = 67 ∨ c = 82 ∨ c = 112 ∨ c = 68 ∨ c = 83 ∨ c = 128 ∨ c = 81 ∨ c = 97 ∨ c = 84 ∨ c = 113 ∨ c = 85 ∨ c = 129 ∨ (¬c = 80 ∧ ¬c = 96 ∧ ¬c = 67 ∧ ¬c = 82 ∧ ¬c = 112 ∧ ¬c = 68 ∧ ¬c = 83 ∧ ¬c = 128 ∧ ¬c = 81 ∧ ¬c = 97 ∧ ¬c = 84 ∧ ¬c = 113 ∧ ¬c = 85 ∧ ¬c = 129) := by omega

theorem intNo (u0 : Nat) (bs : List UInt8) (hl : bs.length ≤ 400000000) (h : bs = [] ∨ ∃ b r, bs = b :: r ∧ (r.length : Int) < wid b.toNat ∨ ∃ b r, bs = b :: r ∧ wid b.toNat < 0) : AR u0 35 [.bts bs] [] (.tup [iL 0, .bts [], bL false]) [] := by
  have fin : ∀ (h : AR u0 35 [.bts bs] [] (.tup [iL 0, nL, bL false]) []), AR u0 35 [.bts bs] [] (.tup [iL 0, .bts [], bL false]) [] := fun h => h.le (leAll_refl _) (Le_tup ⟨Le.refl _, Le_nil, Le.refl _, trivial⟩) rfl
  rcases h with rfl | ⟨b, r, ⟨rfl, h⟩ | ⟨b, r, rfl, h⟩⟩
  · exact fin (riD u0 [] (by simp) ⟨by simp, by simp, idle42, trivial⟩)
  · rcases wid_cases (b.toNat : Int) with e | e | e | e | e | e | e | e | e | e | e | e | e | e | e
    · rw [e] at h; exact cut80 u0 b r e hl (by have : wid 80 = 1 := rfl; omega)
    · rw [e] at h; exact cut96 u0 b r e hl (by have : wid 96 = 2 := rfl; omega)
    · rw [e] at h; exact absurd h (by have : wid 67 = 0 := rfl; omega)
    · rw [e] at h; exact cut82 u0 b r e hl (by have : wid 82 = 1 := rfl; omega)
    · rw [e] at h; exact cut112 u0 b r e hl (by have : wid 112 = 4 := rfl; omega)
    · rw [e] at h; exact absurd h (by have : wid 68 = 0 := rfl; omega)
    · rw [e] at h; exact cut83 u0 b r e hl (by have : wid 83 = 1 := rfl; omega)
    · rw [e] at h; exact cut128 u0 b r e hl (by have : wid 128 = 8 := rfl; omega)
    · rw [e] at h; exact cut81 u0 b r e hl (by have : wid 81 = 1 := rfl; omega)
    · rw [e] at h; exact cut97 u0 b r e hl (by have : wid 97 = 2 := rfl; omega)
    · rw [e] at h; exact cut84 u0 b r e hl (by have : wid 84 = 1 := rfl; omega)
    · rw [e] at h; exact cut113 u0 b r e hl (by have : wid 113 = 4 := rfl; omega)
    · rw [e] at h; exact cut85 u0 b r e hl (by have : wid 85 = 1 := rfl; omega)
    · rw [e] at h; exact cut129 u0 b r e hl (by have : wid 129 = 8 := rfl; omega)
    · have i42 := idle42
      obtain ⟨e80, e96, e67, e82, e112, e68, e83, e128, e81, e97, e84, e113, e85, e129⟩ := e
      exact fin (riC u0 (b :: r) (by omega) (by simp only [AllP]; repeat' (first | exact trivial | with_reducible apply And.intro | assumption | (simp; done) | (simp; omega) | omega)))
  · rcases wid_cases (b.toNat : Int) with e | e | e | e | e | e | e | e | e | e | e | e | e | e | e
    · rw [e] at h; exact absurd h (by decide)
    · rw [e] at h; exact absurd h (by decide)
    · rw [e] at h; exact absurd h (by decide)
    · rw [e] at h; exact absurd h (by decide)
    · rw [e] at h; exact absurd h (by decide)
    · rw [e] at h; exact absurd h (by decide)
    · rw [e] at h; exact absurd h (by decide)
    · rw [e] at h; exact absurd h (by decide)
    · rw [e] at h; exact absurd h (by decide)
    · rw [e] at h; exact absurd h (by decide)
    · rw [e] at h; exact absurd h (by decide)
    · rw [e] at h; exact absurd h (by decide)
    · rw [e] at h; exact absurd h (by decide)
    · rw [e] at h; exact absurd h (by decide)
    · have i42 := idle42
      obtain ⟨e80, e96, e67, e82, e112, e68, e83, e128, e81, e97, e84, e113, e85, e129⟩ := e
      exact fin (riC u0 (b :: r) (by omega) (by simp only [AllP]; repeat' (first | exact trivial | with_reducible apply And.intro | assumption | (simp; done) | (simp; omega) | omega)))

theorem intSample (u0 : Nat) : ACalls Tryd.prog (gR u0) 35 [.own 0 0 2 none] [.bytes 5 [84, 5]] (.tup [iL 5, .bts [], bL true]) [.gone] :=
  by
  have e : ACalls Tryd.prog (gR u0) 35 [.bts [84, 5]] [] (.tup [iL 5, .bts [], bL true]) [] := good84 u0 84 [5] rfl (by simp) (by simp)
  exact ACalls.freezeArg 0 rfl rfl (e.frame [.gone] (by simp [leAll, AV.ren]) rfl)

theorem wrapS16 (n : Int) : IntKind.i16.wrap n = (n + 32768) % 65536 - 32768 := by
  simp [IntKind.wrap, IntKind.signed, IntKind.bits, Int.bmod_def]
  omega
theorem wrapS32 (n : Int) : IntKind.i32.wrap n = (n + 2147483648) % 4294967296 - 2147483648 := by
  simp [IntKind.wrap, IntKind.signed, IntKind.bits, Int.bmod_def]
  omega

theorem beN_4u (b0 : UInt8) (u : Int) (r : List UInt8) : (beN (b0 :: (beL u 4 ++ r)) 1 4 : Int) = u % 4294967296 := by
  have q : ∀ k : Int, 0 < k → ((byteI (u.fdiv k)).toNat : Int) = u / k % 256 := fun k hk => by
    rw [byteI_nat, fdiv_pos _ _ (by omega)]; have := Int.emod_nonneg (u / k) (show (256 : Int) ≠ 0 by decide); omega
  have e : beN (b0 :: (beL u 4 ++ r)) 1 4 = ((((byteI (u.fdiv 16777216)).toNat * 256 + (byteI (u.fdiv 65536)).toNat) * 256 + (byteI (u.fdiv 256)).toNat) * 256 + (byteI u).toNat) := by
    simp [beN, beL]
  have q0 : ((byteI u).toNat : Int) = u % 256 := by rw [byteI_nat]; omega
  have q1 := q 256 (by decide); have q2 := q 65536 (by decide); have q3 := q 16777216 (by decide)
  rw [e]
  simp only [Int.natCast_add, Int.natCast_mul, q0, q1, q2, q3]
  omega
theorem beN_2u (b0 : UInt8) (u : Int) (r : List UInt8) : (beN (b0 :: (beL u 2 ++ r)) 1 2 : Int) = u % 65536 := by
  have q : ∀ k : Int, 0 < k → ((byteI (u.fdiv k)).toNat : Int) = u / k % 256 := fun k hk => by
    rw [byteI_nat, fdiv_pos _ _ (by omega)]; have := Int.emod_nonneg (u / k) (show (256 : Int) ≠ 0 by decide); omega
  have e : beN (b0 :: (beL u 2 ++ r)) 1 2 = ((byteI (u.fdiv 256)).toNat * 256 + (byteI u).toNat) := by
    simp [beN, beL]
  have q0 : ((byteI u).toNat : Int) = u % 256 := by rw [byteI_nat]; omega
  have q1 := q 256 (by decide)
  rw [e]
  simp only [Int.natCast_add, Int.natCast_mul, q0, q1]
  omega
theorem byteU (u : Int) : ((byteI u).toNat : Int) = u % 256 := by rw [byteI_nat]; omega

/-- A form of a whole number: its code, how it reads. -/
theorem intForm {k u c : Int} {x : List UInt8} (hk : 2 ≤ k ∧ k ≤ 9) (h0 : 0 ≤ u) (h1 : u < 18446744073709551616) (hn : NumOk k u) (h : NumF k u c x) :
    wid c = x.length ∧ ∀ (u0 : Nat) (bh : List UInt8), (byteI c :: (x ++ bh)).length ≤ 400000000 → AR u0 35 [.bts (byteI c :: (x ++ bh))] [] (.tup [iL (IntKind.i64.wrap u), .bts bh, bL true]) [] := by
  obtain ⟨n2, n3, n4, n6, n7, n8⟩ := hn
  have dr : ∀ (x bh : List UInt8) (w : Nat), x.length = w → (x ++ bh).drop w = bh := fun x bh w e => by subst e; exact List.drop_left
  have l2 := beL_len u (z := 2) (by omega)
  have l4 := beL_len u (z := 4) (by omega)
  have l8 := beL_len u (z := 8) (by omega)
  rcases h with ⟨rfl, rfl⟩ | ⟨rfl, r1, rfl, rfl⟩ | ⟨rfl, r1, rfl, rfl⟩ | ⟨rfl, r1, rfl, rfl⟩ | ⟨rfl, r1, rfl, rfl⟩ | ⟨rfl, r1, rfl, rfl⟩ | ⟨rfl, r1, rfl, rfl⟩
  · have hc : k = 2 ∨ k = 3 ∨ k = 4 ∨ k = 5 ∨ k = 6 ∨ k = 7 ∨ k = 8 ∨ k = 9 := by omega
    rcases hc with rfl | rfl | rfl | rfl | rfl | rfl | rfl | rfl
    · refine ⟨rfl, fun u0 bh hl => ?_⟩
      have g := good80 u0 (byteI 80) (beL u 1 ++ bh) rfl hl (by rw [List.length_append]; simp [beL])
      rw [dr (beL u 1) bh 1 (by rfl)] at g
      refine g.cast rfl rfl ?_ rfl
      have e : IntKind.i64.wrap ((((beL u 1 ++ bh)[0]?.getD 0).toNat : Nat) : Int) = IntKind.i64.wrap u := by
        have := n2 rfl
        have b1 : ((((beL u 1 ++ bh)[0]?.getD 0).toNat : Nat) : Int) = u % 256 := byteU u
        rw [b1]
        simp only [wrapS64, wrapS32, wrapS16, wrapS8, wrapU32, wrapU64] at *
        omega
      rw [e]
    · refine ⟨by show (2 : Int) = (beL u 2).length; omega, fun u0 bh hl => ?_⟩
      have g := good96 u0 (byteI 96) (beL u 2 ++ bh) rfl hl (by rw [List.length_append]; omega)
      rw [dr (beL u 2) bh 2 (by omega)] at g
      refine g.cast rfl rfl ?_ rfl
      have e : IntKind.i64.wrap (beN (byteI 96 :: (beL u 2 ++ bh)) 1 2 : Int) = IntKind.i64.wrap u := by
        have := n3 rfl
        skip
        rw [beN_2u]
        simp only [wrapS64, wrapS32, wrapS16, wrapS8, wrapU32, wrapU64] at *
        omega
      rw [e]
    · refine ⟨by show (4 : Int) = (beL u 4).length; omega, fun u0 bh hl => ?_⟩
      have g := good112 u0 (byteI 112) (beL u 4 ++ bh) rfl hl (by rw [List.length_append]; omega)
      rw [dr (beL u 4) bh 4 (by omega)] at g
      refine g.cast rfl rfl ?_ rfl
      have e : IntKind.i64.wrap (beN (byteI 112 :: (beL u 4 ++ bh)) 1 4 : Int) = IntKind.i64.wrap u := by
        have := n4 rfl
        skip
        rw [beN_4u]
        simp only [wrapS64, wrapS32, wrapS16, wrapS8, wrapU32, wrapU64] at *
        omega
      rw [e]
    · refine ⟨by show (8 : Int) = (beL u 8).length; omega, fun u0 bh hl => ?_⟩
      have g := good128 u0 (byteI 128) (beL u 8 ++ bh) rfl hl (by rw [List.length_append]; omega)
      rw [dr (beL u 8) bh 8 (by omega)] at g
      refine g.cast rfl rfl ?_ rfl
      have e : IntKind.i64.wrap (beN (byteI 128 :: (beL u 8 ++ bh)) 1 8 : Int) = IntKind.i64.wrap u := by
        skip
        skip
        rw [beN_8 _ u bh h0 h1]
      rw [e]
    · refine ⟨rfl, fun u0 bh hl => ?_⟩
      have g := good81 u0 (byteI 81) (beL u 1 ++ bh) rfl hl (by rw [List.length_append]; simp [beL])
      rw [dr (beL u 1) bh 1 (by rfl)] at g
      refine g.cast rfl rfl ?_ rfl
      have e : IntKind.i64.wrap (IntKind.i8.wrap ((((beL u 1 ++ bh)[0]?.getD 0).toNat : Nat) : Int)) = IntKind.i64.wrap u := by
        have := n6 rfl
        have b1 : ((((beL u 1 ++ bh)[0]?.getD 0).toNat : Nat) : Int) = u % 256 := byteU u
        rw [b1]
        simp only [wrapS64, wrapS32, wrapS16, wrapS8, wrapU32, wrapU64] at *
        omega
      rw [e]
    · refine ⟨by show (2 : Int) = (beL u 2).length; omega, fun u0 bh hl => ?_⟩
      have g := good97 u0 (byteI 97) (beL u 2 ++ bh) rfl hl (by rw [List.length_append]; omega)
      rw [dr (beL u 2) bh 2 (by omega)] at g
      refine g.cast rfl rfl ?_ rfl
      have e : IntKind.i64.wrap (IntKind.i16.wrap (beN (byteI 97 :: (beL u 2 ++ bh)) 1 2 : Int)) = IntKind.i64.wrap u := by
        have := n7 rfl
        skip
        rw [beN_2u]
        simp only [wrapS64, wrapS32, wrapS16, wrapS8, wrapU32, wrapU64] at *
        omega
      rw [e]
    · refine ⟨by show (4 : Int) = (beL u 4).length; omega, fun u0 bh hl => ?_⟩
      have g := good113 u0 (byteI 113) (beL u 4 ++ bh) rfl hl (by rw [List.length_append]; omega)
      rw [dr (beL u 4) bh 4 (by omega)] at g
      refine g.cast rfl rfl ?_ rfl
      have e : IntKind.i64.wrap (IntKind.i32.wrap (beN (byteI 113 :: (beL u 4 ++ bh)) 1 4 : Int)) = IntKind.i64.wrap u := by
        have := n8 rfl
        skip
        rw [beN_4u]
        simp only [wrapS64, wrapS32, wrapS16, wrapS8, wrapU32, wrapU64] at *
        omega
      rw [e]
    · refine ⟨by show (8 : Int) = (beL u 8).length; omega, fun u0 bh hl => ?_⟩
      have g := good129 u0 (byteI 129) (beL u 8 ++ bh) rfl hl (by rw [List.length_append]; omega)
      rw [dr (beL u 8) bh 8 (by omega)] at g
      refine g.cast rfl rfl ?_ rfl
      have e : IntKind.i64.wrap (beN (byteI 129 :: (beL u 8 ++ bh)) 1 8 : Int) = IntKind.i64.wrap u := by
        skip
        skip
        rw [beN_8 _ u bh h0 h1]
      rw [e]
  · refine ⟨rfl, fun u0 bh hl => ?_⟩
    refine (good82 u0 (byteI 82) (byteI u :: bh) rfl hl (by simp)).cast rfl rfl ?_ rfl
    have e : IntKind.i64.wrap (IntKind.u32.wrap ((((byteI u :: bh)[0]?.getD 0).toNat : Nat) : Int)) = IntKind.i64.wrap u := by
      have b1 : ((((byteI u :: bh)[0]?.getD 0).toNat : Nat) : Int) = u % 256 := byteU u
      rw [b1]
      simp only [wrapS64, wrapS32, wrapS16, wrapS8, wrapU32, wrapU64] at *
      omega
    rw [e]; rfl
  · refine ⟨rfl, fun u0 bh hl => ?_⟩
    refine (good83 u0 (byteI 83) (byteI u :: bh) rfl hl (by simp)).cast rfl rfl ?_ rfl
    have e : IntKind.i64.wrap (IntKind.u64.wrap ((((byteI u :: bh)[0]?.getD 0).toNat : Nat) : Int)) = IntKind.i64.wrap u := by
      have b1 : ((((byteI u :: bh)[0]?.getD 0).toNat : Nat) : Int) = u % 256 := byteU u
      rw [b1]
      simp only [wrapS64, wrapS32, wrapS16, wrapS8, wrapU32, wrapU64] at *
      omega
    rw [e]; rfl
  · refine ⟨rfl, fun u0 bh hl => ?_⟩
    subst r1
    exact good67 u0 (byteI 67) bh rfl hl (by simp)
  · refine ⟨rfl, fun u0 bh hl => ?_⟩
    subst r1
    exact good68 u0 (byteI 68) bh rfl hl (by simp)
  · refine ⟨rfl, fun u0 bh hl => ?_⟩
    refine (good84 u0 (byteI 84) (byteI u :: bh) rfl hl (by simp)).cast rfl rfl ?_ rfl
    have e : IntKind.i64.wrap (IntKind.i32.wrap (IntKind.i8.wrap ((((byteI u :: bh)[0]?.getD 0).toNat : Nat) : Int))) = IntKind.i64.wrap u := by
      have b1 : ((((byteI u :: bh)[0]?.getD 0).toNat : Nat) : Int) = u % 256 := byteU u
      rw [b1]
      simp only [wrapS64, wrapS32, wrapS16, wrapS8, wrapU32, wrapU64] at *
      omega
    rw [e]; rfl
  · refine ⟨rfl, fun u0 bh hl => ?_⟩
    refine (good85 u0 (byteI 85) (byteI u :: bh) rfl hl (by simp)).cast rfl rfl ?_ rfl
    have e : IntKind.i64.wrap (IntKind.i8.wrap ((((byteI u :: bh)[0]?.getD 0).toNat : Nat) : Int)) = IntKind.i64.wrap u := by
      have b1 : ((((byteI u :: bh)[0]?.getD 0).toNat : Nat) : Int) = u % 256 := byteU u
      rw [b1]
      simp only [wrapS64, wrapS32, wrapS16, wrapS8, wrapU32, wrapU64] at *
      omega
    rw [e]; rfl

theorem fnReadIntegerC (u0 : Nat) (p : ValT) (hw : p.wf) (fs : Int) (bh : List UInt8) (ct : Int) (hct : ct < 9223372036854775808) : ACalls Tryd.prog (gR u0) 10 [hAV p fs bh ct] [] (.lit (.bool true)) [] := by
  by_cases hb : bh.length ≤ 2147483647
  · have hz := zzYes (gR u0) p fs bh ct hb
    have hs := intSample u0
    have lo : Le (AV.own 0 0 2 (some 2)) (AV.own 0 0 2 none) := Le_cap 0 0 2 (some 2)
    rcases dataB (validR u0) p hw fs bh ct hct with h | ⟨out, ha, hd⟩
    · exact fiA u0 p fs bh ct ⟨h, hs, lo, hz, trivial⟩
    · obtain ⟨c, x, he, c0, c1, ck, hP⟩ := ha.head
      have hl := ha.len
      have hbl := ha.bh
      have hbc := byteI_eq (c := c) (by omega) c1
      have hu : 0 ≤ p.num ∧ p.num < 18446744073709551616 ∧ NumOk p.kind p.num := by
        have := ha.ok
        cases p with
        | nul => exact ⟨Int.le_refl 0, by show (0 : Int) < _; decide, by refine ⟨?_, ?_, ?_, ?_, ?_, ?_⟩ <;> intro h <;> cases h⟩
        | mk k u t n f o d g => exact ⟨this.1.2.2.1, this.2.1.2.2.2.2.2, this.2.1.2.2.2.2.1⟩
      have key : (2 ≤ p.kind ∧ p.kind ≤ 9) → NumF p.kind p.num c x := fun hk => by
        rcases hP.2.2.1 (by omega) with ⟨h, _⟩ | ⟨h, _⟩ | ⟨_, h⟩ | ⟨h, _⟩ | ⟨h, _⟩ | ⟨h, _⟩ | ⟨h, _⟩
        · omega
        · omega
        · exact h
        all_goals omega
      have no : ¬(2 ≤ p.kind ∧ p.kind ≤ 9) → wid c < 0 := fun hk => by
        rcases wid_cases c with rfl | rfl | rfl | rfl | rfl | rfl | rfl | rfl | rfl | rfl | rfl | rfl | rfl | rfl | e
        · exact absurd ck (by have : kindAt 80 = 2 := rfl; omega)
        · exact absurd ck (by have : kindAt 96 = 3 := rfl; omega)
        · exact absurd ck (by have : kindAt 67 = 4 := rfl; omega)
        · exact absurd ck (by have : kindAt 82 = 4 := rfl; omega)
        · exact absurd ck (by have : kindAt 112 = 4 := rfl; omega)
        · exact absurd ck (by have : kindAt 68 = 5 := rfl; omega)
        · exact absurd ck (by have : kindAt 83 = 5 := rfl; omega)
        · exact absurd ck (by have : kindAt 128 = 5 := rfl; omega)
        · exact absurd ck (by have : kindAt 81 = 6 := rfl; omega)
        · exact absurd ck (by have : kindAt 97 = 7 := rfl; omega)
        · exact absurd ck (by have : kindAt 84 = 8 := rfl; omega)
        · exact absurd ck (by have : kindAt 113 = 8 := rfl; omega)
        · exact absurd ck (by have : kindAt 85 = 9 := rfl; omega)
        · exact absurd ck (by have : kindAt 129 = 9 := rfl; omega)
        · obtain ⟨e80, e96, e67, e82, e112, e68, e83, e128, e81, e97, e84, e113, e85, e129⟩ := e
          have : wid c = -1 := by unfold wid; rw [mgetI_ne e80, mgetI_ne e96, mgetI_ne e67, mgetI_ne e82, mgetI_ne e112, mgetI_ne e68, mgetI_ne e83, mgetI_ne e128, mgetI_ne e81, mgetI_ne e97, mgetI_ne e84, mgetI_ne e113, mgetI_ne e85, mgetI_ne e129]; rfl
          omega
      by_cases hN : p.kind = 5 ∧ IntKind.i64.wrap p.num < 0
      · rcases hd with ⟨m, hm, h⟩ | h
        · exact fiN u0 p fs bh ct _ _ _ ⟨hN, h, hs, lo, hz, trivial⟩
        · exact fiN u0 p fs bh ct _ _ _ ⟨hN, h, hs, lo, hz, trivial⟩
      · have hN' : p.kind = 5 → (0 : Int) ≤ IntKind.i64.wrap p.num := fun h => by omega
        subst he
        rcases hd with ⟨m, hm, h⟩ | h
        · refine fiB u0 p fs bh ct _ ⟨intNo u0 _ (by rw [List.length_take]; omega) ?_, hN', h, hs, lo, hz, trivial⟩
          cases m with
          | zero => exact .inl rfl
          | succ m =>
            refine .inr ⟨byteI c, x.take m, ?_⟩
            by_cases hk : 2 ≤ p.kind ∧ p.kind ≤ 9
            · refine .inl ⟨rfl, ?_⟩
              rw [hbc, (intForm hk hu.1 hu.2.1 hu.2.2 (key hk)).1, List.length_take]
              simp at hm; omega
            · exact .inr ⟨byteI c, x.take m, rfl, by rw [hbc]; exact no hk⟩
        · by_cases hk : 2 ≤ p.kind ∧ p.kind ≤ 9
          · have y := (intForm hk hu.1 hu.2.1 hu.2.2 (key hk)).2 u0 bh (by simp only [List.length_cons, List.length_append] at hl ⊢; omega)
            exact (fiD u0 p fs bh ct _ bh _ ⟨rfl, hk, y, hN', h, hs, lo, hz, trivial⟩).cast rfl rfl (by simp) rfl
          · refine fiC u0 p fs bh ct _ ⟨by omega, intNo u0 _ (by simp only [List.length_cons, List.length_append] at hl ⊢; omega) (.inr ⟨byteI c, x ++ bh, .inr ⟨byteI c, x ++ bh, rfl, by rw [hbc]; exact no hk⟩⟩), hN', h, hs, lo, hz, trivial⟩
  · exact fiZ u0 p fs bh ct ⟨zzNo (gR u0) p fs bh ct hb, trivial⟩
end Go.Ax
