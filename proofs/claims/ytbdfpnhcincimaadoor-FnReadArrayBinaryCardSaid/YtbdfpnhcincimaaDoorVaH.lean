/-
  Values of AMQP, written in chosen forms: any value.
-/
import Derived.Test.YtbdfpnhcincimaaDoorVaG
import Derived.Test.YtbdfpnhcincimaaDoorW4b
import Derived.Test.YtbdfpnhcincimaaDoorW4d
set_option linter.unusedVariables false
set_option linter.unusedSimpArgs false
set_option maxRecDepth 100000
set_option maxHeartbeats 1000000
namespace Go.Ax
open Go.Proofs

theorem fdiv_pos (u : Int) (k : Int) (hk : 0 ≤ k) : u.fdiv k = u / k := Int.fdiv_eq_ediv_of_nonneg u hk

theorem pickC (n st : Int) (sh : Bool) (h1 : 1 ≤ n) (h2 : n < 4294967296) :
    ∃ k st' : Int, (0 ≤ k ∧ k < n) ∧ ACalls Tryd.prog noG 57 [.ptr 0 0, .lit (.int .i64 n)] [FR st sh] (.lit (.int .i64 k)) [FR st' sh] := by
  cases hb : (bif sh then true else decide (n ≤ 1)) with
  | true => exact ⟨0, st, by omega, gpkA n st sh ⟨hb, trivial⟩⟩
  | false =>
    refine ⟨_, _, ?_, gpkB n st sh ⟨by omega, hb, trivial⟩⟩
    rw [wrapU64, fdiv_pos _ _ (by decide)]
    generalize IntKind.u64.wrap (st * 6364136223846793005) + 1442695040888963407 = X
    have e : IntKind.i64.wrap (X % 18446744073709551616 / 8589934592) = X % 18446744073709551616 / 8589934592 := wrap64 (by omega) (by omega)
    rw [e]
    have h0 : 0 ≤ X % 18446744073709551616 / 8589934592 := by omega
    rw [Int.tmod_eq_emod_of_nonneg h0]
    exact ⟨Int.emod_nonneg _ (by omega), Int.emod_lt_of_pos _ (by omega)⟩

/-! ### The elements of an array -/
def shortOf (k : Int) : Int := mgetI [(4, 82), (5, 83), (8, 84), (9, 85), (18, 160), (19, 161), (20, 163)] k 0

theorem codeOf_pos {k : Int} (h0 : 0 ≤ k) (h1 : k < 24) : 0 < codeOf k ∧ codeOf k < 256 := by
  have : k = 0 ∨ k = 1 ∨ k = 2 ∨ k = 3 ∨ k = 4 ∨ k = 5 ∨ k = 6 ∨ k = 7 ∨ k = 8 ∨ k = 9 ∨ k = 10 ∨ k = 11 ∨ k = 12 ∨ k = 13 ∨ k = 14 ∨ k = 15 ∨ k = 16 ∨ k = 17 ∨ k = 18 ∨ k = 19 ∨ k = 20 ∨ k = 21 ∨ k = 22 ∨ k = 23 := by omega
  rcases this with rfl | rfl | rfl | rfl | rfl | rfl | rfl | rfl | rfl | rfl | rfl | rfl | rfl | rfl | rfl | rfl | rfl | rfl | rfl | rfl | rfl | rfl | rfl | rfl <;> decide

section
variable {fn : FuncId} {args : List AV} {cap : Option Nat} {st0 st : Int} {sh : Bool}
theorem fzA {c : Int} {x : List UInt8} (h : ACalls Tryd.prog noG fn args [FR st0 sh] (.own 1 0 1 cap) [FR st sh, .cells 106 2 [.lit (.int .i64 c), .bts x]]) : ACalls Tryd.prog noG fn args [FR st0 sh] (pL [(c, x)]) [FR st sh] := by
  have a := (h.freezeRet 1 rfl rfl).only [0] rfl
  refine a.le (leAll_refl _) (Le_ro' fun i hi => ?_) rfl
  obtain rfl : i = 0 := by omega
  exact ⟨DLe.refl _, DLe.refl _, trivial⟩
theorem fzB {c c2 : Int} {x x2 : List UInt8} (h : ACalls Tryd.prog noG fn args [FR st0 sh] (.own 1 0 2 cap) [FR st sh, .cells 106 2 [.lit (.int .i64 c), .bts x, .lit (.int .i64 c2), .bts x2]]) : ACalls Tryd.prog noG fn args [FR st0 sh] (pL [(c, x), (c2, x2)]) [FR st sh] := by
  have a := (h.freezeRet 1 rfl rfl).only [0] rfl
  refine a.le (leAll_refl _) (Le_ro' fun i hi => ?_) rfl
  rcases (show i = 0 ∨ i = 1 by omega) with rfl | rfl <;> exact ⟨DLe.refl _, DLe.refl _, trivial⟩
theorem fzN {c : Int} (h : ACalls Tryd.prog noG fn args [FR st0 sh] (.own 1 0 1 cap) [FR st sh, .cells 106 2 [.lit (.int .i64 c), .lit (.slice none 0 0)]]) : ACalls Tryd.prog noG fn args [FR st0 sh] (pL [(c, [])]) [FR st sh] := by
  have a := (h.freezeRet 1 rfl rfl).only [0] rfl
  refine a.le (leAll_refl _) (Le_ro' fun i hi => ?_) rfl
  obtain rfl : i = 0 := by omega
  exact ⟨DLe.refl _, DLe_nil, trivial⟩
theorem fzP {c c2 : Int} {x : List UInt8} (h : ACalls Tryd.prog noG fn args [FR st0 sh] (.own 1 0 2 cap) [FR st sh, .cells 106 2 [.lit (.int .i64 c), .lit (.slice none 0 0), .lit (.int .i64 c2), .own 2 0 x.length (some x.length)], .bytes 5 x]) :
    ACalls Tryd.prog noG fn args [FR st0 sh] (pL [(c, []), (c2, x)]) [FR st sh] := by
  have a := ((h.freezeRet 2 rfl rfl).freezeRet 1 rfl rfl).only [0] rfl
  refine a.le (leAll_refl _) (Le_ro' fun i hi => ?_) rfl
  rcases (show i = 0 ∨ i = 1 by omega) with rfl | rfl
  · exact ⟨DLe.refl _, DLe_nil, trivial⟩
  · exact ⟨DLe.refl _, DLe_take _, trivial⟩
theorem fzQ {c c2 c3 : Int} {x x2 : List UInt8} (h : ACalls Tryd.prog noG fn args [FR st0 sh] (.own 1 0 3 cap) [FR st sh, .cells 106 2 [.lit (.int .i64 c), .lit (.slice none 0 0), .lit (.int .i64 c2), .own 2 0 x.length none, .lit (.int .i64 c3), .own 3 0 x2.length none], .bytes 5 x, .bytes 5 x2]) :
    ACalls Tryd.prog noG fn args [FR st0 sh] (pL [(c, []), (c2, x), (c3, x2)]) [FR st sh] := by
  have a := (((h.freezeRet 2 rfl rfl).freezeRet 3 rfl rfl).freezeRet 1 rfl rfl).only [0] rfl
  refine a.le (leAll_refl _) (Le_ro' fun i hi => ?_) rfl
  rcases (show i = 0 ∨ i = 1 ∨ i = 2 by omega) with rfl | rfl | rfl
  · exact ⟨DLe.refl _, DLe_nil, trivial⟩
  · exact ⟨DLe.refl _, DLe_take _, trivial⟩
  · exact ⟨DLe.refl _, DLe_take _, trivial⟩
end

/-- What the elements may be: a code, the values' bytes one behind the other. -/
def ElsF (n : Nat) (kd : Int) (B : Nat → Nat) (Q : Nat → Int → List UInt8 → Prop) (c : Int) (x : List UInt8) : Prop :=
  (c = codeOf kd ∨ c = shortOf kd) ∧ c ≠ 0 ∧ x.length ≤ sumN B 0 n ∧ ∃ ds, x = catM ds 0 n ∧ ∀ j, j < n → Q j c (ds j)

theorem elementsC (n : Nat) (f : Nat → ValT) (sh : Bool) (kd : Int) (h0 : 0 ≤ kd) (h1 : kd < 24) (hn : n ≤ 1000000) (B : Nat → Nat) (Q : Nat → Int → List UInt8 → Prop)
    (hp : ∀ i, i < n → ∀ st : Int, ∃ (ps : List (Int × List UInt8)) (st' : Int), ps.length ≤ 1000 ∧ (∀ q ∈ ps, Q i q.1 q.2 ∧ q.2.length ≤ B i) ∧ (∃ q ∈ ps, q.1 = codeOf kd) ∧
      ACalls Tryd.prog noG 56 [.ptr 0 0, .agg (nodesc (f i))] [FR st sh] (pL ps) [FR st' sh]) (st : Int) (hB : sumN B 0 n ≤ 70368744177664) :
    ∃ (l : List (Int × List UInt8)) (st' : Int), l ≠ [] ∧ l.length ≤ 2 ∧ (∀ q ∈ l, ElsF n kd B Q q.1 q.2) ∧ ACalls Tryd.prog noG 111 [.ptr 0 0, .lit (.int .i64 kd), .ro 6 n (fun i => vcl (f i))] [FR st sh] (pL l) [FR st' sh] := by
  have cp := codeOf_pos h0 h1
  have h86 := codedC kd
  have all2 : (codeOf kd != 0) = true := by simp; omega
  obtain ⟨st1, a1, D1, l1, q1, q2, q3, q4⟩ := kelCA n f sh (shortOf kd) (codeOf kd) 0 (shortOf kd) hn B Q False (fun i hi st => by obtain ⟨ps, st', g1, g2, g3, g4⟩ := hp i hi st; exact ⟨ps, st', g1, g2, fun h => h.elim, g4⟩) st (shortOf kd != 0) hB
  cases ha : a1 with
  | false =>
    obtain ⟨st2, a2, D2, l2, p1, p2, p3, p4⟩ := kelCA n f sh (shortOf kd) (codeOf kd) 1 (codeOf kd) hn B Q True (fun i hi st => by obtain ⟨ps, st', g1, g2, g3, g4⟩ := hp i hi st; exact ⟨ps, st', g1, g2, fun _ => g3, g4⟩) st1 (codeOf kd != 0) hB
    have ea := p3 all2 trivial
    refine ⟨[(codeOf kd, D2)], st2, by simp, by simp, fun q hq => ?_, fzA (elA n f st sh kd (codeOf kd) st1 st2 a1 a2 D1 D2 ⟨ea, l2, ha, l1, h86, trivial⟩)⟩
    simp at hq; subst hq
    exact ⟨.inl rfl, by show codeOf kd ≠ 0; omega, p1, p2 ea⟩
  | true =>
    obtain ⟨st2, a2, D2, l2, p1, p2, p3, p4⟩ := kelCB n f sh (shortOf kd) (codeOf kd) 1 (codeOf kd) (shortOf kd) D1 hn B Q True (fun i hi st => by obtain ⟨ps, st', g1, g2, g3, g4⟩ := hp i hi st; exact ⟨ps, st', g1, g2, fun _ => g3, g4⟩) st1 (codeOf kd != 0) hB
    have ea := p3 all2 trivial
    have hs : (shortOf kd != 0) = true := by
      cases hx : (shortOf kd != 0) with
      | true => rfl
      | false => rw [q4 hx] at ha; cases ha
    refine ⟨[(shortOf kd, D1), (codeOf kd, D2)], st2, by simp, by simp, fun q hq => ?_, fzB (elB n f st sh kd (codeOf kd) st1 st2 a1 a2 D1 D2 ⟨ea, l2, ha, l1, h86, trivial⟩)⟩
    simp at hq
    rcases hq with rfl | rfl
    · exact ⟨.inr rfl, by simpa using hs, q1, q2 ha⟩
    · exact ⟨.inl rfl, by show codeOf kd ≠ 0; omega, p1, p2 ea⟩
end Go.Ax
