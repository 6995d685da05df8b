/-
  What the laws that read an array have in common: an array's head, read or refused; arrayOf; lists of values that are the same.
-/
import Derived.Test.YtbdfpnhcincimaaDoorVaP
import Derived.Test.YtbdfpnhcincimaaDoorRa
import Derived.Test.YtbdfpnhcincimaaDoorRz
import Derived.Test.YtbdfpnhcincimaaDoorRs
import Derived.Test.YtbdfpnhcincimaaDoorFl
set_option linter.unusedVariables false
set_option linter.unusedSimpArgs false
set_option maxRecDepth 100000
set_option maxHeartbeats 1000000
namespace Go.Ax
open Go.Proofs

abbrev bR (bs : List UInt8) : List Row := [bF 1 bs 0, .bytes 5 bs]
abbrev bK (bs : List UInt8) (k : Int) : List Row := [.cells 78 2 [.own 1 0 bs.length none, iL k], .bytes 5 bs]
def HdNo (u0 : Nat) (bs : List UInt8) : Prop := ∃ t k : Nat, AR u0 93 [.ptr 0 0] (bR bs) (.tup [iL 0, .ifc t .dead]) (bK bs k)
def HdYes (u0 : Nat) (bs : List UInt8) (n k : Nat) : Prop := AR u0 93 [.ptr 0 0] (bR bs) (.tup [iL n, nI]) (bK bs k)

theorem Le_ifcd (t : Nat) (a : AV) : Le (.ifc t a) (.ifc t .dead) := fun ρ h O w v hv => by
  cases hv with
  | dr hd => cases hd with | ifc h1 => exact .dr (.ifc (.dead _))
  | ifc h1 => exact .ifc (.dr (.dead _))

theorem errOut {u0 : Nat} {f : FuncId} {args : List AV} {H : List Row} {bs : List UInt8} {t : Nat} {k : Int} {e : Row} (hH : H.length = 2)
    (h : AR u0 f args H (.tup [iL 0, .ifc t (.ptr 2 0)]) [.cells 78 2 [.own 1 0 bs.length none, iL k], .bytes 5 bs, e]) : AR u0 f args H (.tup [iL 0, .ifc t .dead]) (bK bs k) := by
  have a := h.le (ret' := .tup [iL 0, .ifc t .dead]) (leAll_refl _) (Le_tup ⟨Le.refl _, Le_ifcd _ _, trivial⟩) rfl
  refine a.only [0, 1] ?_
  rw [hH]; rfl

theorem hdEmpty (u0 : Nat) : HdNo u0 [] := ⟨u0, 0, hx1 u0 [] (by simp) ⟨by simp, trivial⟩⟩
theorem hdCode (u0 : Nat) (b : UInt8) (r : List UInt8) (hl : (b :: r).length ≤ 400000000) (h1 : ¬(b.toNat : Int) = 240) (h2 : ¬(b.toNat : Int) = 224) : HdNo u0 (b :: r) :=
  ⟨162, 1, errOut rfl (hx2 u0 (b :: r) (by omega) ⟨h1, h2, by simp, by simp; omega, trivial⟩)⟩

theorem bI (n : Nat) (h : n ≤ 255) : ((byteI (n : Int)).toNat : Int) = n := byteI_eq (by omega) (by omega)
theorem bI1 (n : Nat) (h : n + 1 ≤ 255) : ((byteI ((n : Int) + 1)).toNat : Int) = n + 1 := byteI_eq (by omega) (by omega)

theorem beN_4at (a : List UInt8) (u : Int) (r : List UInt8) (hu0 : 0 ≤ u) (hu1 : u < 4294967296) (ha : a.length = 4) (b0 : UInt8) : (beN (b0 :: (a ++ (beL u 4 ++ r))) 5 4 : Int) = u := by
  have e : beN (b0 :: (a ++ (beL u 4 ++ r))) 5 4 = beN (b0 :: (beL u 4 ++ r)) 1 4 := by
    match a, ha with
    | [x, y, z, w], _ => simp [beN]
  rw [e]
  exact beN_4 b0 u r hu0 hu1

section
variable (u0 n : Nat) (b r : List UInt8)
/-- The short head. -/
theorem hd8 (h1 : b.length + 1 ≤ 255) (hn : n ≤ 255) (hr : r.length ≤ 300000000) :
    (n ≤ b.length → HdYes u0 (224 :: byteI ((b.length : Int) + 1) :: byteI n :: (b ++ r)) n 3) ∧ (b.length < n → HdNo u0 (224 :: byteI ((b.length : Int) + 1) :: byteI n :: (b ++ r))) := by
  have b1 := bI1 b.length h1
  have b2 := bI n hn
  have w1 : IntKind.i64.wrap ((b.length : Int) + 1) = b.length + 1 := wrap64 (by omega) (by omega)
  have w2 : IntKind.i64.wrap (n : Int) = n := wrap64 (by omega) (by omega)
  have w3 : IntKind.i64.wrap ((b.length : Int) + 1 - 1) = b.length := by rw [wrap64 (by omega) (by omega)]; omega
  have hl : (224 :: byteI ((b.length : Int) + 1) :: byteI n :: (b ++ r)).length = 3 + b.length + r.length := by simp; omega
  refine ⟨fun h => ?_, fun h => ⟨162, 3, errOut rfl (hx8 u0 _ (by omega) ?_)⟩⟩
  · have a := hA u0 (224 :: byteI ((b.length : Int) + 1) :: byteI n :: (b ++ r)) (by omega) (by
      rw [hl]
      simp only [AllP, List.getElem?_cons_succ, List.getElem?_cons_zero, Option.getD_some, b1, b2, w1, w2, w3]
      repeat' (first | exact trivial | with_reducible apply And.intro | omega | rfl))
    simp only [List.getElem?_cons_succ, List.getElem?_cons_zero, Option.getD_some, b2, w2] at a
    exact a
  · rw [hl]
    simp only [AllP, List.getElem?_cons_succ, List.getElem?_cons_zero, Option.getD_some, b1, b2, w1, w2, w3]
    repeat' (first | exact trivial | with_reducible apply And.intro | omega | rfl)

theorem hd8cut (h1 : b.length + 1 ≤ 255) (m : Nat) (hm : m < b.length + 2) : HdNo u0 (224 :: (byteI ((b.length : Int) + 1) :: byteI n :: b).take m) := by
  have b1 := bI1 b.length h1
  have w1 : IntKind.i64.wrap ((b.length : Int) + 1) = b.length + 1 := wrap64 (by omega) (by omega)
  have hl : ((224 : UInt8) :: (byteI ((b.length : Int) + 1) :: byteI n :: b).take m).length = 1 + m := by simp; omega
  by_cases h : m < 2
  · refine ⟨162, _, errOut rfl (hx3 u0 _ (by omega) ?_)⟩
    rw [hl]
    simp only [AllP, List.getElem?_cons_zero, Option.getD_some]
    repeat' (first | exact trivial | with_reducible apply And.intro | omega | rfl)
  · refine ⟨162, 3, errOut rfl (hx4 u0 _ (by omega) ?_)⟩
    rw [hl]
    obtain ⟨m', rfl⟩ : ∃ m', m = m' + 1 := ⟨m - 1, by omega⟩
    simp only [AllP, List.take_succ_cons, List.getElem?_cons_succ, List.getElem?_cons_zero, Option.getD_some, b1, w1]
    repeat' (first | exact trivial | with_reducible apply And.intro | omega | rfl)

/-- The long head. -/
theorem hd32 (hb : b.length ≤ 1000000000) (hn : n ≤ 65536) (hr : (b ++ r).length ≤ 300000000) :
    (n ≤ b.length → HdYes u0 (240 :: (beL ((b.length : Int) + 4) 4 ++ (beL n 4 ++ (b ++ r)))) n 9) ∧ (b.length < n → HdNo u0 (240 :: (beL ((b.length : Int) + 4) 4 ++ (beL n 4 ++ (b ++ r))))) := by
  have l1 := beL_len ((b.length : Int) + 4) (z := 4) (by omega)
  have l2 := beL_len (n : Int) (z := 4) (by omega)
  have hl : (240 :: (beL ((b.length : Int) + 4) 4 ++ (beL n 4 ++ (b ++ r)))).length = 9 + b.length + r.length := by simp only [List.length_cons, List.length_append]; omega
  have hbl : b.length + r.length ≤ 300000000 := by rw [← List.length_append]; exact hr
  have e1 := beN_4 240 ((b.length : Int) + 4) (beL n 4 ++ (b ++ r)) (by omega) (by omega)
  have e2 := beN_4at (beL ((b.length : Int) + 4) 4) n (b ++ r) (by omega) (by omega) (by omega) 240
  generalize hbs : (240 :: (beL ((b.length : Int) + 4) 4 ++ (beL n 4 ++ (b ++ r)))) = bs at *
  have be1 := be4A (gR u0) bs 1 (by omega)
  have be2 := be4A (gR u0) bs 5 (by omega)
  rw [e1] at be1
  rw [e2] at be2
  have hb0 : (((bs[0]?.getD 0).toNat : Nat) : Int) = 240 := by rw [← hbs]; rfl
  have w1 : IntKind.i64.wrap ((b.length : Int) + 4) = b.length + 4 := wrap64 (by omega) (by omega)
  have w2 : IntKind.i64.wrap (n : Int) = n := wrap64 (by omega) (by omega)
  have w3 : IntKind.i64.wrap ((b.length : Int) + 4 - 4) = b.length := by rw [wrap64 (by omega) (by omega)]; omega
  refine ⟨fun h => ?_, fun h => ⟨162, 9, errOut rfl (hy8 u0 bs (by omega) ((b.length : Int) + 4) n ?_)⟩⟩
  · have a := hB u0 bs (by omega) ((b.length : Int) + 4) n (by
      simp only [AllP, hb0, w1, w2, w3]
      repeat' (first | exact trivial | with_reducible apply And.intro | assumption | omega))
    rw [w2] at a
    exact a
  · simp only [AllP, hb0, w1, w2, w3]
    repeat' (first | exact trivial | with_reducible apply And.intro | assumption | omega)

theorem hd32cut (hb : b.length ≤ 1000000000) (hb2 : b.length ≤ 300000000) (m : Nat) (hm : m < b.length + 8) : HdNo u0 (240 :: (beL ((b.length : Int) + 4) 4 ++ (beL n 4 ++ b)).take m) := by
  have l1 := beL_len ((b.length : Int) + 4) (z := 4) (by omega)
  have l2 := beL_len (n : Int) (z := 4) (by omega)
  have hl : ((240 : UInt8) :: (beL ((b.length : Int) + 4) 4 ++ (beL n 4 ++ b)).take m).length = 1 + m := by simp only [List.length_cons, List.length_take, List.length_append]; omega
  have w1 : IntKind.i64.wrap ((b.length : Int) + 4) = b.length + 4 := wrap64 (by omega) (by omega)
  by_cases h : m < 8
  · refine ⟨162, _, errOut rfl (hy3 u0 _ (by omega) ?_)⟩
    rw [hl]
    simp only [AllP, List.getElem?_cons_zero, Option.getD_some]
    repeat' (first | exact trivial | with_reducible apply And.intro | omega | rfl | decide)
  · have ht : (beL ((b.length : Int) + 4) 4 ++ (beL n 4 ++ b)).take m = beL ((b.length : Int) + 4) 4 ++ (beL n 4 ++ b).take (m - 4) := by
      rw [List.take_append, List.take_of_length_le (by omega), show (beL ((b.length : Int) + 4) 4).length = 4 by omega]
    rw [ht] at hl ⊢
    have e1 := beN_4 240 ((b.length : Int) + 4) ((beL n 4 ++ b).take (m - 4)) (by omega) (by omega)
    generalize hbs : (240 :: (beL ((b.length : Int) + 4) 4 ++ (beL n 4 ++ b).take (m - 4))) = bs at *
    have be1 := be4A (gR u0) bs 1 (by omega)
    rw [e1] at be1
    have hb0 : (((bs[0]?.getD 0).toNat : Nat) : Int) = 240 := by rw [← hbs]; rfl
    refine ⟨162, 9, errOut rfl (hy4 u0 bs (by omega) ((b.length : Int) + 4) ?_)⟩
    simp only [AllP, hb0, w1]
    repeat' (first | exact trivial | with_reducible apply And.intro | assumption | omega)
end

/-- An array's head, whole or cut. -/
theorem hdArr (u0 n : Nat) (b x : List UInt8) (c : Int) (h : CntF 224 240 n b c x) (hb : b.length ≤ 262204000) (hn : n ≤ 1000) :
    (∀ r : List UInt8, r.length ≤ 100 → (n ≤ b.length → ∃ k, k ≤ 9 ∧ HdYes u0 (byteI c :: (x ++ r)) n k ∧ (byteI c :: (x ++ r)).drop k = b ++ r) ∧ (b.length < n → HdNo u0 (byteI c :: (x ++ r)))) ∧
    ∀ m, m < x.length → HdNo u0 (byteI c :: x.take m) := by
  rcases h with ⟨rfl, rfl, h1, h2⟩ | ⟨rfl, rfl⟩
  · refine ⟨fun r hr => ⟨fun h => ⟨3, by omega, ?_, rfl⟩, fun h => ?_⟩, fun m hm => hd8cut u0 n b h1 m (by simp at hm; omega)⟩
    · exact (hd8 u0 n b r h1 h2 (by omega)).1 h
    · exact (hd8 u0 n b r h1 h2 (by omega)).2 h
  · have l1 := beL_len ((b.length : Int) + 4) (z := 4) (by omega)
    have l2 := beL_len (n : Int) (z := 4) (by omega)
    have e : ∀ r, beL ((b.length : Int) + 4) 4 ++ (beL (n : Int) 4 ++ b) ++ r = beL ((b.length : Int) + 4) 4 ++ (beL (n : Int) 4 ++ (b ++ r)) := fun r => by simp only [List.append_assoc]
    refine ⟨fun r hr => ?_, fun m hm => hd32cut u0 n b (by omega) (by omega) m (by simp only [List.length_append] at hm; omega)⟩
    rw [e r]
    refine ⟨fun h => ⟨9, by omega, (hd32 u0 n b r (by omega) (by omega) (by rw [List.length_append]; omega)).1 h, ?_⟩, fun h => (hd32 u0 n b r (by omega) (by omega) (by rw [List.length_append]; omega)).2 h⟩
    rw [show (9 : Nat) = 8 + 1 from rfl, List.drop_succ_cons, ← List.append_assoc, List.drop_append, List.drop_eq_nil_of_le (by rw [List.length_append]; omega), List.nil_append, show 8 - (beL ((b.length : Int) + 4) 4 ++ beL n 4).length = 0 by rw [List.length_append]; omega]
    rfl

/-! ### arrayOf -/
def ArrOk (k : Int) (n : Nat) (f : Nat → ValT) (o q : Int) : Prop := k = 23 ∧ (n = 0 → o = q) ∧ ∀ i, i < n → (f i).kind = q ∧ (f i).nd = 0

theorem aoLoop (u0 : Nat) (k u : Int) (t : ByteArray) (n : Nat) (f : Nat → ValT) (o : Int) (d : Nat) (g : Nat → ValT) (q : Int) (hn : n ≤ 9223372036854775807) : ∀ (m i : Nat), n - i = m → i ≤ n →
    ((∀ j, i ≤ j → j < n → (f j).kind = q ∧ (f j).nd = 0) ∧ LoopC Tryd.prog (gR u0) 43 (loopAt Tryd.f27 0) [(1, iL q), (2, .ptr 0 0), (24, kA n f), (25, iL n), (26, iL i)] [vR (vmk k u t n f o d g)] (.exit 0) [(1, iL q), (2, .ptr 0 0)] [vR (vmk k u t n f o d g)]) ∨
    ((∃ j, j < n ∧ ¬((f j).kind = q ∧ (f j).nd = 0)) ∧ LoopC Tryd.prog (gR u0) 43 (loopAt Tryd.f27 0) [(1, iL q), (2, .ptr 0 0), (24, kA n f), (25, iL n), (26, iL i)] [vR (vmk k u t n f o d g)] .ret [(4, nL), (5, bL false)] [vR (vmk k u t n f o d g)])
  | 0, i, hm, hi => .inl ⟨fun j h1 h2 => by omega, LoopC.exit (aoX u0 k u t n f o d g q i ⟨by simp; omega, trivial⟩) (by simp)⟩
  | m + 1, i, hm, hi => by
    have hlt : i < n := by omega
    have w := wrapI i (by omega)
    by_cases h : (f i).kind = q ∧ (f i).nd = 0
    · have st := aoL u0 k u t n f o d g q i ⟨by rw [Int.toNat_natCast, h.1, h.2]; simp, by omega, by simp; omega, trivial⟩
      rw [w] at st
      rcases aoLoop u0 k u t n f o d g q hn m (i + 1) (by omega) (by omega) with ⟨h1, h2⟩ | ⟨h1, h2⟩
      · refine .inl ⟨fun j a b => ?_, LoopC.step st h2⟩
        by_cases e : j = i
        · subst e; exact h
        · exact h1 j (by omega) b
      · exact .inr ⟨h1, LoopC.step st h2⟩
    · refine .inr ⟨⟨i, hlt, h⟩, LoopC.exit (aoF u0 k u t n f o d g q i ⟨?_, by omega, by simp; omega, trivial⟩) (by simp)⟩
      rw [Int.toNat_natCast]
      by_cases hk : (f i).kind = q
      · have : (f i).nd ≠ 0 := fun e => h ⟨hk, e⟩
        simp [hk]; omega
      · simp [hk]

theorem arrOfC (u0 : Nat) (k u : Int) (t : ByteArray) (n : Nat) (f : Nat → ValT) (o : Int) (d : Nat) (g : Nat → ValT) (q : Int) (hn : n ≤ 9223372036854775807) :
    (ArrOk k n f o q ∧ AR u0 27 [.agg (vmk k u t n f o d g), iL q] [] (.tup [kA n f, bL true]) []) ∨ (¬ArrOk k n f o q ∧ AR u0 27 [.agg (vmk k u t n f o d g), iL q] [] (.tup [nL, bL false]) []) := by
  by_cases h1 : k = 23 ∧ (n = 0 → o = q)
  · by_cases h0 : n = 0
    · subst h0
      exact .inl ⟨⟨h1.1, h1.2, fun i hi => by omega⟩, aoZ u0 k u t 0 f o d g q ⟨⟨h1.1, h1.2 rfl⟩, trivial⟩⟩
    · rcases aoLoop u0 k u t n f o d g q hn n 0 rfl (by omega) with ⟨a, l⟩ | ⟨⟨j, hj, a⟩, l⟩
      · exact .inl ⟨⟨h1.1, h1.2, fun i hi => a i (by omega) hi⟩, aoG u0 k u t n f o d g q (by omega) ⟨l.code, h1, trivial⟩⟩
      · exact .inr ⟨fun h => a (h.2.2 j hj), aoR u0 k u t n f o d g q (by omega) ⟨l.code, h1, trivial⟩⟩
  · refine .inr ⟨fun h => h1 ⟨h.1, h.2.1⟩, aoN u0 k u t n f o d g q ⟨?_, trivial⟩⟩
    by_cases hk : k = 23
    · exact .inr (by by_cases h0 : n = 0 <;> simp_all)
    · exact .inl hk

theorem arrOfV (u0 : Nat) (p : ValT) (q : Int) (hn : p.n ≤ 9223372036854775807) :
    (ArrOk p.kind p.n p.kidf p.kof q ∧ AR u0 27 [.agg (vcl p), iL q] [] (.tup [kA p.n p.kidf, bL true]) []) ∨ (¬ArrOk p.kind p.n p.kidf p.kof q ∧ AR u0 27 [.agg (vcl p), iL q] [] (.tup [nL, bL false]) []) := by
  cases p with
  | nul =>
    rcases arrOfC u0 0 0 .empty 0 (fun _ => .nul) 0 0 (fun _ => .nul) q (by omega) with ⟨a, b⟩ | ⟨a, b⟩
    · exact absurd a.1 (by decide)
    · exact .inr ⟨a, ACalls.vnulArgG b⟩
  | mk k u t n f o d g => exact arrOfC u0 k u t n f o d g q hn

/-! ### Lists of values that are the same -/
theorem sameListC (u0 n : Nat) (a b : Nat → ValT) (hn : n ≤ 1000000) (h : ∀ i, i < n → AR u0 16 [.agg (vcl (a i)), .agg (vcl (b i))] [] (bL true) []) : AR u0 29 [kA n a, kA n b] [] (bL true) [] := by
  have l : ∀ (m i : Nat), n - i = m → i ≤ n → LoopC Tryd.prog (gR u0) 27 (loopAt Tryd.f29 0) [(0, kA n a), (1, kA n b), (12, iL n), (13, iL i)] [] (.exit 0) [] [] := by
    intro m
    induction m with
    | zero => exact fun i hm hi => LoopC.exit (slX u0 n a b i ⟨by simp; omega, trivial⟩) (by simp)
    | succ m ih =>
      intro i hm hi
      have st := slL u0 n a b i ⟨h i (by omega), by rw [Int.toNat_natCast]; exact leAll_refl _, by omega, by omega, by simp; omega, trivial⟩
      rw [wrapI i (by omega)] at st
      exact LoopC.step st (ih (i + 1) (by omega) (by omega))
  exact slG u0 n a b ⟨(l n 0 rfl (by omega)).code, trivial⟩

theorem sameLeaf2 (u0 : Nat) (k u : Int) (t : ByteArray) (f : Nat → ValT) (o : Int) (g : Nat → ValT) (t2 : ByteArray) (f2 : Nat → ValT) (o2 : Int) (g2 : Nat → ValT) (ht : t.toList = t2.toList) :
    AR u0 16 [.agg (vcl (.mk k u t 0 f o 0 g)), .agg (vcl (.mk k u t2 0 f2 o2 0 g2))] [] (bL true) [] := by
  have hl : CodeC Tryd.prog noG 77 (.loop (loopAt Tryd.f16 0)) [(2, .ptr 0 0), (3, .ptr 1 0), (45, .lit (.int .i64 ((0 : Nat) : Int))), (46, .lit (.int .i64 0))] [.cells 25 6 (vmk k u t 0 f o 0 g), .cells 25 6 (vmk k u t2 0 f2 o2 0 g2)] (.exit 0) [(2, .ptr 0 0), (3, .ptr 1 0)] [.cells 25 6 (vmk k u t 0 f o 0 g), .cells 25 6 (vmk k u t2 0 f2 o2 0 g2)] :=
    (LoopC.exit (svx k u t 0 f o 0 g k u t2 0 f2 o2 0 g2 0 (by simp only [AllP]; repeat' (first | exact trivial | with_reducible apply And.intro | rfl | (simp; done)))) (by simp)).code
  have h := svb k u t 0 f o 0 g k u t2 0 f2 o2 0 g2 (by
    simp only [AllP]
    repeat' (first | exact trivial | with_reducible apply And.intro | exact hl | rfl | (simp [ht]; done)))
  exact h.anyG (gR u0)
end Go.Ax
namespace Go.Ax
open Go.Proofs
/-! ### An array that is asked -/
theorem DLe_nil_ro {s : Nat} {get : Nat → List AV} : DLe nL (.ro s 0 get) := fun O w v h => by cases h; exact .ronil

/-- Values of a kind that the law builds, as trees. -/
def lv (k : Int) (w : Nat → Int) (i : Nat) : ValT := .mk k (w i) .empty 0 (fun _ => .nul) 0 0 (fun _ => .nul)
def lt (k : Int) (w : Nat → ByteArray) (i : Nat) : ValT := .mk k 0 (w i) 0 (fun _ => .nul) 0 0 (fun _ => .nul)

theorem texts_le (k : Int) (w : Nat → ByteArray) (n : Nat) : Le (.ro 6 n (fun i => ((Fill.texts k w n).drop (0 + i * 6)).take 6)) (kA n (lt k w)) :=
  Le_ro' fun i hi => by
    rw [Fill.texts_slice k w n i hi]
    exact ⟨DLe.refl _, DLe.refl _, DLe.refl _, DLe_nil_ro, DLe.refl _, DLe_nil_ro, trivial⟩

theorem sameTexts (u0 n : Nat) (f : Nat → ValT) (k : Int) (w : Nat → ByteArray) (hn : n ≤ 1000000) (h : ∀ i, i < n → AR u0 16 [.agg (vcl (lt k w i)), .agg (vcl (f i))] [] (bL true) []) :
    AR u0 29 [.own 0 0 n none, kA n f] [.cells 25 6 (Fill.texts k w n)] (bL true) [.gone] := by
  refine ACalls.freezeArg 0 rfl (by show AV.closedL (Fill.texts k w n) = true; simp) ?_
  have a := (sameListC u0 n (lt k w) f hn h).frame [.gone] (by simp [leAll, AV.ren]) rfl
  exact a.le ⟨texts_le k w n, Le.refl _, trivial⟩ (Le.refl _) rfl
theorem sameNil (u0 : Nat) (f : Nat → ValT) : AR u0 29 [nL, kA 0 f] [] (bL true) [] :=
  (sameListC u0 0 f f (by omega) (fun i hi => by omega)).le ⟨Le_nil_ro, Le.refl _, trivial⟩ (Le.refl _) rfl

theorem at_drop {bs z : List UInt8} {y : UInt8} {k : Nat} (h : bs.drop k = y :: z) : bs[k]? = some y := by
  have e : (bs.drop k)[0]? = bs[k + 0]? := List.getElem?_drop
  rw [h] at e
  exact e.symm
/-- What an array's kids are. -/
theorem kidsOk {k u : Int} {t : ByteArray} {n : Nat} {f : Nat → ValT} {o : Int} {d : Nat} {g : Nat → ValT} (h : (ValT.mk k u t n f o d g).okv) : (k = 23 → ∀ i, i < n → (f i).kind = (f 0).kind ∧ (f i).nd = (f 0).nd) ∧ (∀ i, i < n → (f i).okv) ∧ n ≤ 1000 ∧ (k = 23 → n = 0 → 0 ≤ o ∧ o < 24) :=
  ⟨h.1.2.2.2.2.2.2.2.2, h.2.2.1, h.1.2.2.2.2.1, h.1.2.2.2.2.2.2.2.1⟩

theorem codes_ne (q c : Int) (kd : Int) (h0 : 0 ≤ kd) (h1 : kd < 24) (ht : ∀ i : Fin 24, (i.val : Int) ≠ q → codeOf i.val ≠ c ∧ shortOf i.val ≠ c) (hne : kd ≠ q) : codeOf kd ≠ c ∧ shortOf kd ≠ c := by
  obtain ⟨m, rfl⟩ : ∃ m : Nat, kd = m := ⟨kd.toNat, by omega⟩
  exact ht ⟨m, by omega⟩ hne
theorem codes_lt (kd : Int) (h0 : 0 ≤ kd) (h1 : kd < 24) : 0 ≤ codeOf kd ∧ codeOf kd < 256 ∧ 0 ≤ shortOf kd ∧ shortOf kd < 256 := by
  obtain ⟨m, rfl⟩ : ∃ m : Nat, kd = m := ⟨kd.toNat, by omega⟩
  have ht : ∀ i : Fin 24, 0 ≤ codeOf i.val ∧ codeOf i.val < 256 ∧ 0 ≤ shortOf i.val ∧ shortOf i.val < 256 := by decide
  exact ht ⟨m, by omega⟩
end Go.Ax
