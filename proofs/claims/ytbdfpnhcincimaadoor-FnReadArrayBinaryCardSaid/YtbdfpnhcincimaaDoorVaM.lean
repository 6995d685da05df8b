/-
  What laws.Handed gives: whether it is asked, and what is written then.
-/
import Derived.Test.YtbdfpnhcincimaaDoorVaL
import Derived.Test.YtbdfpnhcincimaaDoorY6
set_option linter.unusedVariables false
set_option linter.unusedSimpArgs false
set_option maxRecDepth 100000
set_option maxHeartbeats 1000000
namespace Go.Ax
open Go.Proofs

/-! ### Cells of values, one behind the other -/
theorem renL_getsL (fr : Nat → Option Nat) (get : Nat → List AV) (h : ∀ i, AV.renL fr (get i) = get i) : ∀ (n k : Nat), AV.renL fr (getsL get k n) = getsL get k n
  | 0, k => rfl
  | n + 1, k => by rw [getsL, renL_app', h, renL_getsL fr get h n (k + 1)]

theorem closedL_getsL (get : Nat → List AV) (h : ∀ i, AV.closedL (get i) = true) : ∀ (n k : Nat), AV.closedL (getsL get k n) = true
  | 0, k => rfl
  | n + 1, k => by rw [getsL, closedL_app', h, closedL_getsL get h n (k + 1)]; rfl

theorem allOne_app : ∀ a b : List AV, allOne a = true → allOne b = true → allOne (a ++ b) = true
  | [], b, _, h => h
  | x :: a, b, h1, h2 => by
    rw [List.cons_append, allOne] at *
    cases hx : x.one with
    | false => rw [hx] at h1; cases h1
    | true => rw [hx] at h1; exact allOne_app a b h1 h2

theorem allOne_getsL (get : Nat → List AV) (h : ∀ i, allOne (get i) = true) : ∀ (n k : Nat), allOne (getsL get k n) = true
  | 0, k => rfl
  | n + 1, k => by rw [getsL]; exact allOne_app _ _ (h k) (allOne_getsL get h n (k + 1))

theorem getsL_slice (get : Nat → List AV) (sz : Nat) (hg : ∀ i, (get i).length = sz) : ∀ (n k i : Nat), i < n → ((getsL get k n).drop (i * sz)).take sz = get (k + i)
  | 0, k, i, hi => by omega
  | n + 1, k, i, hi => by
    rw [getsL]
    cases i with
    | zero => rw [Nat.zero_mul, List.drop_zero, List.take_left' (hg k)]; rfl
    | succ i =>
      rw [show (i + 1) * sz = (get k).length + i * sz by rw [hg, Nat.add_mul]; omega, List.drop_append, List.drop_eq_nil_of_le (by omega), List.nil_append, show (get k).length + i * sz - (get k).length = i * sz by omega, getsL_slice get sz hg n (k + 1) i (by omega)]
      congr 1; omega

theorem two_slice (n d : Nat) (f g : Nat → ValT) (i : Nat) (hi : i < n + d) :
    ((getsL (fun i => vcl (f i)) 0 n ++ getsL (fun i => vcl (g i)) 0 d).drop (0 + i * 6)).take 6 = vcl (if i < n then f i else g (i - n)) := by
  have hl : (getsL (fun i => vcl (f i)) 0 n).length = n * 6 := getsL_length _ 6 n 0 (fun i _ _ => rfl)
  rw [Nat.zero_add]
  by_cases h : i < n
  · rw [if_pos h, List.drop_append_of_le_length (by omega), List.take_append_of_le_length (by rw [List.length_drop]; omega), getsL_slice (fun i => vcl (f i)) 6 (fun i => rfl) n 0 i h]
    simp
  · rw [if_neg h, show i * 6 = (getsL (fun i => vcl (f i)) 0 n).length + (i - n) * 6 by omega, List.drop_append, List.drop_eq_nil_of_le (by omega), List.nil_append,
      show (getsL (fun i => vcl (f i)) 0 n).length + (i - n) * 6 - (getsL (fun i => vcl (f i)) 0 n).length = (i - n) * 6 by omega, getsL_slice (fun i => vcl (g i)) 6 (fun i => rfl) d 0 (i - n) (by omega)]
    simp

theorem values_mk (k u : Int) (t : ByteArray) (n : Nat) (f : Nat → ValT) (o : Int) (d : Nat) (g : Nat → ValT) (hn : n + d ≤ 1000000) (ih : ∀ i, i < n → ∃ c : Int, ACalls Tryd.prog noG 47 [vAV (f i)] [] (.lit (.int .i64 c)) [])
    (ih2 : ∀ i, i < d → ∃ c : Int, ACalls Tryd.prog noG 47 [vAV (g i)] [] (.lit (.int .i64 c)) []) : ∃ c : Int, ACalls Tryd.prog noG 47 [.agg (vmk k u t n f o d g)] [] (.lit (.int .i64 c)) [] := by
  obtain ⟨c, hl⟩ := valuesL (fun i => if i < n then f i else g (i - n)) (n + d) hn (fun i hi => by
    by_cases h : i < n
    · simp only [h, if_true]; exact ih i h
    · simp only [h, if_false]; exact ih2 (i - n) (by omega)) (n + d) 0 rfl (Nat.zero_le _) 1
  refine ⟨c, ?_⟩
  generalize hcs : (getsL (fun i => vcl (f i)) 0 n ++ getsL (fun i => vcl (g i)) 0 d) = cs
  have hlen : (getsL (fun i => vcl (f i)) 0 n).length = n * 6 := getsL_length _ 6 n 0 (fun i _ _ => rfl)
  have e0 : List.take ((0 + n) * 6) (List.drop 0 ([] ++ getsL (fun i => vcl (f i)) 0 n)) ++ getsL (fun i => vcl (g i)) 0 d = cs := by
    rw [Nat.zero_add, List.nil_append, List.drop_zero, ← hlen, List.take_length, hcs]
  have hcl : AV.closedL cs = true := by
    rw [← hcs, closedL_app', closedL_getsL _ (fun i => rfl), closedL_getsL _ (fun i => rfl)]; rfl
  have hren : AV.renL (idxIn [576] 0) cs = cs := by
    rw [← hcs, renL_app', renL_getsL _ _ (fun i => rfl), renL_getsL _ _ (fun i => rfl)]
  have one (g : Nat → ValT) (m : Nat) : allOne (getsL (fun i => vcl (g i)) 0 m) = true := allOne_getsL _ (fun i => rfl) m 0
  have hcode : CodeC Tryd.prog noG 24 (.loop (loopAt Tryd.f47 0)) [(3, .lit (.int .i64 1)), (12, .own 0 0 (n + d) none), (13, .lit (.int .i64 ((n + d : Nat) : Int))), (14, .lit (.int .i64 0))] [.cells 25 6 cs] (.exit 0) [(3, .lit (.int .i64 c))] [.gone] := by
    refine CodeC.freezeIn 0 rfl hcl ?_
    have h2 : CodeC Tryd.prog noG 24 (.loop (loopAt Tryd.f47 0)) [(3, .lit (.int .i64 1)), (12, .ro 6 (n + d) (fun i => (cs.drop (0 + i * 6)).take 6)), (13, .lit (.int .i64 ((n + d : Nat) : Int))), (14, .lit (.int .i64 0))] [.gone] (.exit 0) [(3, .lit (.int .i64 c))] [.gone] := by
      intro O ρ a w S hn' hv
      have K : SubOk (hL [.gone]) [] [] := ⟨fun i j x hi _ => (by simp at hi), fun id hm => (by cases hm), rfl, fun k id hk => (by simp at hk)⟩
      refine wp_mono (hl.code O (layOf ρ []) a w (K.sim S) hn' fun t av ht => ?_) fun e a' w' ⟨ρ', O', q1, q2, q3, q4, q5, q6⟩ => ?_
      · simp only [List.mem_cons, List.not_mem_nil, or_false, Prod.mk.injEq] at ht
        rcases ht with ⟨rfl, rfl⟩ | ⟨rfl, rfl⟩ | ⟨rfl, rfl⟩ | ⟨rfl, rfl⟩
        · exact VR_ren K.ren (hv 3 (.lit (.int .i64 1)) (by simp))
        · have := VR_ren K.ren (hv 12 _ (by simp : (12, AV.ro 6 (n + d) (fun i => (cs.drop (0 + i * 6)).take 6)) ∈ _))
          refine Le_ro (fun i hi => ?_) _ _ _ _ _ this
          rw [← hcs]
          exact two_slice n d f g i hi
        · exact VR_ren K.ren (hv 13 (.lit (.int .i64 ((n + d : Nat) : Int))) (by simp))
        · exact VR_ren K.ren (hv 14 (.lit (.int .i64 0)) (by simp))
      · obtain ⟨r1, r2, r3⟩ := sub_back (fr := 1) K S (by simp) (fun i h1 h2 => by simp at h2; omega) q5 q6
        refine ⟨_, O', q1, q2, q3, fun t av ht => ?_, r2, r3⟩
        simp only [List.mem_cons, List.not_mem_nil, or_false, Prod.mk.injEq] at ht
        obtain ⟨rfl, rfl⟩ := ht
        exact VR_ren r1 (q4 3 (.lit (.int .i64 c)) (by simp))
    exact h2
  refine vsa k u t n f o d g c cs ⟨hcode, ?_, ?_, ?_, ?_, trivial⟩
  · simp only [Nat.zero_add]; exact ⟨Le.refl _, Le.refl _, Le.refl _, Le.refl _, trivial⟩
  · rw [e0, hren]; exact ⟨RowLe.refl _, trivial⟩
  · exact ⟨by omega, by omega, one g d⟩
  · exact ⟨by omega, by omega, one f n⟩
end Go.Ax
