/-
  Values of AMQP, written in chosen forms: the elements of an array.
-/
import Derived.Test.YtbdfpnhcincimaaDoorVaE
import Derived.Test.YtbdfpnhcincimaaDoorW4c
set_option linter.unusedVariables false
set_option linter.unusedSimpArgs false
set_option maxRecDepth 100000
set_option maxHeartbeats 1000000
namespace Go.Ax
open Go.Proofs

abbrev FR (st : Int) (sh : Bool) : Row := .cells 48 2 [.lit (.int .u64 st), .lit (.bool sh)]

/-- Bytes that may be none yet. -/
def dAV (k : Nat) : List UInt8 → AV
  | [] => .lit (.slice none 0 0)
  | b :: D => .own k 0 (b :: D).length none
def dRow : List UInt8 → List Row
  | [] => []
  | b :: D => [.bytes 5 (b :: D)]

/-- The first form with a code: found or not, its bytes. -/
def pk (c : Int) : Bool → List (Int × List UInt8) → Bool × List UInt8
  | fd, [] => (fd, [])
  | fd, q :: l => if q.1 = c ∧ fd = false then ((pk c true l).1, q.2 ++ (pk c true l).2) else pk c fd l

theorem pk_true (c : Int) : ∀ l, pk c true l = (true, [])
  | [] => rfl
  | q :: l => by rw [pk, if_neg (by simp)]; exact pk_true c l

theorem pk_false (c : Int) : ∀ l, (pk c false l = (false, []) ∧ ∀ q ∈ l, q.1 ≠ c) ∨ ∃ q ∈ l, q.1 = c ∧ pk c false l = (true, q.2)
  | [] => .inl ⟨rfl, by simp⟩
  | q :: l => by
    by_cases h : q.1 = c
    · exact .inr ⟨q, by simp, h, by rw [pk, if_pos ⟨h, rfl⟩, pk_true]; simp⟩
    · rcases pk_false c l with ⟨h1, h2⟩ | ⟨p, h1, h2, h3⟩
      · refine .inl ⟨by rw [pk, if_neg (by simp [h])]; exact h1, fun p hp => ?_⟩
        rcases List.mem_cons.1 hp with rfl | hp
        · exact h
        · exact h2 p hp
      · exact .inr ⟨p, by simp [h1], h2, by rw [pk, if_neg (by simp [h])]; exact h3⟩

theorem drop_cons {α : Type} (l : List α) (d : α) (j : Nat) (h : j < l.length) : l.drop j = l.getD j d :: l.drop (j + 1) := by
  rw [List.getD_eq_getElem?_getD, List.getElem?_eq_getElem h]; simp

theorem innA (n : Nat) (f : Nat → ValT) (st : Int) (sh : Bool) (cs cc r c : Int) (all : Bool) (i : Nat) (ps : List (Int × List UInt8)) (hps : ps.length ≤ 1000000) (B : Nat) (hB : ∀ q ∈ ps, q.2.length ≤ B) (hB2 : B ≤ 70368744177664) :
    ∀ (m j : Nat), ps.length - j = m → j ≤ ps.length → ∀ (fd : Bool) (D : List UInt8), D.length ≤ 70368744177664 + (if fd then B else 0) →
      LoopK Tryd.prog noG 1 75 (loopAt Tryd.f111 2) [(0, .ptr 0 0), (2, .ro 6 n (fun i => vcl (f i))), (8, .lit (.slice none 0 0)), (10, .lit (.int .i64 c)), (11, dAV 1 D), (12, .lit (.bool all)), (15, .lit (.bool fd)), (25, .ro 1 2 (fun i => ([.lit (.int .i64 cs), .lit (.int .i64 cc)].drop (0 + i * 1)).take 1)), (26, .lit (.int .i64 2)), (27, .lit (.int .i64 r)), (33, .ro 6 n (fun i => vcl (f i))), (34, .lit (.int .i64 n)), (35, .lit (.int .i64 i)), (42, pL ps), (43, .lit (.int .i64 ps.length)), (44, .lit (.int .i64 j))] ([FR st sh] ++ dRow D) (.exit 4) [(0, .ptr 0 0), (2, .ro 6 n (fun i => vcl (f i))), (8, .lit (.slice none 0 0)), (10, .lit (.int .i64 c)), (11, dAV 1 (D ++ (pk c fd (ps.drop j)).2)), (12, .lit (.bool all)), (15, .lit (.bool (pk c fd (ps.drop j)).1)), (25, .ro 1 2 (fun i => ([.lit (.int .i64 cs), .lit (.int .i64 cc)].drop (0 + i * 1)).take 1)), (26, .lit (.int .i64 2)), (27, .lit (.int .i64 r)), (33, .ro 6 n (fun i => vcl (f i))), (34, .lit (.int .i64 n)), (35, .lit (.int .i64 i))] ([FR st sh] ++ dRow (D ++ (pk c fd (ps.drop j)).2))
  | 0, j, hm, hj, fd, D, hD => by
    have hd : decide ((j : Int) < ps.length) = false := by simp; omega
    have e : ps.drop j = [] := List.drop_eq_nil_of_le (by omega)
    rw [e, pk, List.append_nil]
    cases D with
    | nil => exact LoopK.exit (exnilA n f st sh cs cc r c all i j ps.length (fun i => (ps.getD i (0, [])).1) (fun i => (ps.getD i (0, [])).2) fd ⟨hd, trivial⟩) (by simp)
    | cons b D => exact LoopK.exit (exownA n f st sh cs cc r c all i j ps.length (fun i => (ps.getD i (0, [])).1) (fun i => (ps.getD i (0, [])).2) fd (b :: D) ⟨hd, trivial⟩) (by simp)
  | m + 1, j, hm, hj, fd, D, hD => by
    have hlt : j < ps.length := by omega
    have hd : decide ((j : Int) < ps.length) = true := by simp; omega
    have hb : (0 : Int) ≤ j ∧ (j : Int) < ps.length := by omega
    have w := wrapI j (by omega)
    have e := drop_cons ps (0, []) j hlt
    have hmem : ps.getD j (0, []) ∈ ps := by rw [List.getD_eq_getElem?_getD, List.getElem?_eq_getElem hlt]; simp
    have hq := hB _ hmem
    rw [e, pk]
    by_cases hc : (ps.getD j (0, [])).1 = c ∧ fd = false
    · rw [if_pos hc]
      obtain ⟨h1, rfl⟩ := hc
      have hcond : (bif (ps.getD (j : Int).toNat (0, [])).1 == c then !false else false) = true := by
        rw [Int.toNat_natCast]
        show (bif (ps.getD j (0, [])).1 == c then !false else false) = true
        rw [h1]; simp
      have hD : D.length ≤ 70368744177664 := by simpa using hD
      rw [← List.append_assoc]
      have ih := innA n f st sh cs cc r c all i ps hps B hB hB2 m (j + 1) (by omega) (by omega) true (D ++ (ps.getD j (0, [])).2) (by rw [List.length_append]; simp only [if_true]; omega)
      cases D with
      | nil =>
        rw [List.nil_append] at ih ⊢
        by_cases hz : (ps.getD j (0, [])).2.length = 0
        · have hz' : (ps.getD j (0, [])).2 = [] := List.eq_nil_of_length_eq_zero hz
          have stp := etEA n f st sh cs cc r c all i j ps.length (fun i => (ps.getD i (0, [])).1) (fun i => (ps.getD i (0, [])).2) false ⟨by rw [Int.toNat_natCast]; exact hz, hcond, hb, hd, trivial⟩
          rw [w] at stp
          rw [hz'] at ih ⊢
          exact LoopK.step [some 0] stp rfl ih
        · have stp := etNA n f st sh cs cc r c all i j ps.length (fun i => (ps.getD i (0, [])).1) (fun i => (ps.getD i (0, [])).2) false ⟨by rw [Int.toNat_natCast]; show 0 < (ps.getD j (0, [])).2.length ∧ _; omega, hcond, hb, hd, trivial⟩
          rw [w] at stp
          simp only [Int.toNat_natCast] at stp
          cases hx : (ps.getD j (0, [])).2 with
          | nil => rw [hx] at hz; exact absurd rfl hz
          | cons b x =>
            rw [hx] at stp ih
            exact LoopK.step [some 0, some 1] stp rfl ih
      | cons b D =>
        have stp := etOA n f st sh cs cc r c all i j ps.length (fun i => (ps.getD i (0, [])).1) (fun i => (ps.getD i (0, [])).2) false (b :: D) ⟨by rw [Int.toNat_natCast]; show (b :: D).length + (ps.getD j (0, [])).2.length ≤ _; omega, hcond, hb, hd, trivial⟩
        rw [w, Int.toNat_natCast] at stp
        simp only [List.drop_zero, List.take_length] at stp
        rw [← List.length_append] at stp
        exact LoopK.step [some 0, some 2] stp rfl ih
    · rw [if_neg hc]
      have hcond : (bif (ps.getD (j : Int).toNat (0, [])).1 == c then !fd else false) = false := by
        rw [Int.toNat_natCast]
        cases fd with
        | true => simp
        | false => simp at hc ⊢; exact hc
      have ih := innA n f st sh cs cc r c all i ps hps B hB hB2 m (j + 1) (by omega) (by omega) fd D hD
      cases D with
      | nil =>
        have stp := esnilA n f st sh cs cc r c all i j ps.length (fun i => (ps.getD i (0, [])).1) (fun i => (ps.getD i (0, [])).2) fd ⟨hcond, hb, hd, trivial⟩
        rw [w] at stp
        exact LoopK.step [some 0] stp rfl ih
      | cons b D =>
        have stp := esownA n f st sh cs cc r c all i j ps.length (fun i => (ps.getD i (0, [])).1) (fun i => (ps.getD i (0, [])).2) fd (b :: D) ⟨hcond, hb, hd, trivial⟩
        rw [w] at stp
        exact LoopK.step [some 0, some 1] stp rfl ih

theorem innB (n : Nat) (f : Nat → ValT) (st : Int) (sh : Bool) (cs cc r c : Int) (all : Bool) (i : Nat) (c1 : Int) (D1 : List UInt8) (ps : List (Int × List UInt8)) (hps : ps.length ≤ 1000000) (B : Nat) (hB : ∀ q ∈ ps, q.2.length ≤ B) (hB2 : B ≤ 70368744177664) :
    ∀ (m j : Nat), ps.length - j = m → j ≤ ps.length → ∀ (fd : Bool) (D : List UInt8), D.length ≤ 70368744177664 + (if fd then B else 0) →
      LoopK Tryd.prog noG 2 75 (loopAt Tryd.f111 2) [(0, .ptr 0 0), (2, .ro 6 n (fun i => vcl (f i))), (8, .own 1 0 1 none), (10, .lit (.int .i64 c)), (11, dAV 2 D), (12, .lit (.bool all)), (15, .lit (.bool fd)), (25, .ro 1 2 (fun i => ([.lit (.int .i64 cs), .lit (.int .i64 cc)].drop (0 + i * 1)).take 1)), (26, .lit (.int .i64 2)), (27, .lit (.int .i64 r)), (33, .ro 6 n (fun i => vcl (f i))), (34, .lit (.int .i64 n)), (35, .lit (.int .i64 i)), (42, pL ps), (43, .lit (.int .i64 ps.length)), (44, .lit (.int .i64 j))] ([FR st sh, .cells 106 2 [.lit (.int .i64 c1), .bts D1]] ++ dRow D) (.exit 4) [(0, .ptr 0 0), (2, .ro 6 n (fun i => vcl (f i))), (8, .own 1 0 1 none), (10, .lit (.int .i64 c)), (11, dAV 2 (D ++ (pk c fd (ps.drop j)).2)), (12, .lit (.bool all)), (15, .lit (.bool (pk c fd (ps.drop j)).1)), (25, .ro 1 2 (fun i => ([.lit (.int .i64 cs), .lit (.int .i64 cc)].drop (0 + i * 1)).take 1)), (26, .lit (.int .i64 2)), (27, .lit (.int .i64 r)), (33, .ro 6 n (fun i => vcl (f i))), (34, .lit (.int .i64 n)), (35, .lit (.int .i64 i))] ([FR st sh, .cells 106 2 [.lit (.int .i64 c1), .bts D1]] ++ dRow (D ++ (pk c fd (ps.drop j)).2))
  | 0, j, hm, hj, fd, D, hD => by
    have hd : decide ((j : Int) < ps.length) = false := by simp; omega
    have e : ps.drop j = [] := List.drop_eq_nil_of_le (by omega)
    rw [e, pk, List.append_nil]
    cases D with
    | nil => exact LoopK.exit (exnilB n f st sh cs cc r c all i j ps.length (fun i => (ps.getD i (0, [])).1) (fun i => (ps.getD i (0, [])).2) fd c1 D1 ⟨hd, trivial⟩) (by simp)
    | cons b D => exact LoopK.exit (exownB n f st sh cs cc r c all i j ps.length (fun i => (ps.getD i (0, [])).1) (fun i => (ps.getD i (0, [])).2) fd c1 D1 (b :: D) ⟨hd, trivial⟩) (by simp)
  | m + 1, j, hm, hj, fd, D, hD => by
    have hlt : j < ps.length := by omega
    have hd : decide ((j : Int) < ps.length) = true := by simp; omega
    have hb : (0 : Int) ≤ j ∧ (j : Int) < ps.length := by omega
    have w := wrapI j (by omega)
    have e := drop_cons ps (0, []) j hlt
    have hmem : ps.getD j (0, []) ∈ ps := by rw [List.getD_eq_getElem?_getD, List.getElem?_eq_getElem hlt]; simp
    have hq := hB _ hmem
    rw [e, pk]
    by_cases hc : (ps.getD j (0, [])).1 = c ∧ fd = false
    · rw [if_pos hc]
      obtain ⟨h1, rfl⟩ := hc
      have hcond : (bif (ps.getD (j : Int).toNat (0, [])).1 == c then !false else false) = true := by
        rw [Int.toNat_natCast]
        show (bif (ps.getD j (0, [])).1 == c then !false else false) = true
        rw [h1]; simp
      have hD : D.length ≤ 70368744177664 := by simpa using hD
      rw [← List.append_assoc]
      have ih := innB n f st sh cs cc r c all i c1 D1 ps hps B hB hB2 m (j + 1) (by omega) (by omega) true (D ++ (ps.getD j (0, [])).2) (by rw [List.length_append]; simp only [if_true]; omega)
      cases D with
      | nil =>
        rw [List.nil_append] at ih ⊢
        by_cases hz : (ps.getD j (0, [])).2.length = 0
        · have hz' : (ps.getD j (0, [])).2 = [] := List.eq_nil_of_length_eq_zero hz
          have stp := etEB n f st sh cs cc r c all i j ps.length (fun i => (ps.getD i (0, [])).1) (fun i => (ps.getD i (0, [])).2) false c1 D1 ⟨by rw [Int.toNat_natCast]; exact hz, hcond, hb, hd, trivial⟩
          rw [w] at stp
          rw [hz'] at ih ⊢
          exact LoopK.step [some 0, some 1] stp rfl ih
        · have stp := etNB n f st sh cs cc r c all i j ps.length (fun i => (ps.getD i (0, [])).1) (fun i => (ps.getD i (0, [])).2) false c1 D1 ⟨by rw [Int.toNat_natCast]; show 0 < (ps.getD j (0, [])).2.length ∧ _; omega, hcond, hb, hd, trivial⟩
          rw [w] at stp
          simp only [Int.toNat_natCast] at stp
          cases hx : (ps.getD j (0, [])).2 with
          | nil => rw [hx] at hz; exact absurd rfl hz
          | cons b x =>
            rw [hx] at stp ih
            exact LoopK.step [some 0, some 1, some 2] stp rfl ih
      | cons b D =>
        have stp := etOB n f st sh cs cc r c all i j ps.length (fun i => (ps.getD i (0, [])).1) (fun i => (ps.getD i (0, [])).2) false c1 D1 (b :: D) ⟨by rw [Int.toNat_natCast]; show (b :: D).length + (ps.getD j (0, [])).2.length ≤ _; omega, hcond, hb, hd, trivial⟩
        rw [w, Int.toNat_natCast] at stp
        simp only [List.drop_zero, List.take_length] at stp
        rw [← List.length_append] at stp
        exact LoopK.step [some 0, some 1, some 3] stp rfl ih
    · rw [if_neg hc]
      have hcond : (bif (ps.getD (j : Int).toNat (0, [])).1 == c then !fd else false) = false := by
        rw [Int.toNat_natCast]
        cases fd with
        | true => simp
        | false => simp at hc ⊢; exact hc
      have ih := innB n f st sh cs cc r c all i c1 D1 ps hps B hB hB2 m (j + 1) (by omega) (by omega) fd D hD
      cases D with
      | nil =>
        have stp := esnilB n f st sh cs cc r c all i j ps.length (fun i => (ps.getD i (0, [])).1) (fun i => (ps.getD i (0, [])).2) fd c1 D1 ⟨hcond, hb, hd, trivial⟩
        rw [w] at stp
        exact LoopK.step [some 0, some 1] stp rfl ih
      | cons b D =>
        have stp := esownB n f st sh cs cc r c all i j ps.length (fun i => (ps.getD i (0, [])).1) (fun i => (ps.getD i (0, [])).2) fd c1 D1 (b :: D) ⟨hcond, hb, hd, trivial⟩
        rw [w] at stp
        exact LoopK.step [some 0, some 1, some 2] stp rfl ih
end Go.Ax
