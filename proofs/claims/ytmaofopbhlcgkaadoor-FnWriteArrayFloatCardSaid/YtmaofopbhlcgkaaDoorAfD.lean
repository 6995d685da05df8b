/-
  laws.FnWriteArrayFloat: an array is read back; the law.
-/
import Derived.Test.YtmaofopbhlcgkaaDoorAfB2
import Derived.Test.YtmaofopbhlcgkaaDoorAfB3
import Derived.Test.YtmaofopbhlcgkaaDoorAfC
set_option linter.unusedVariables false
set_option linter.unusedSimpArgs false
set_option maxRecDepth 100000
namespace Go.Ax
open Go.Proofs

/-! ### An array of AMQP, read back -/
abbrev It := Int × ByteArray
theorem itC_cells (k : Int) : LCells (itC k) 6 := ⟨fun x => rfl, fun f x => rfl, fun x => rfl⟩
theorem getT (l : List It) (i : Nat) (h : i < l.length) : l.getD i (0, .empty) = l[i] := by simp [h]

section
variable (k : Int) (c : UInt8) (items : List It) (enc : It → List UInt8)
def eb (l : List It) : List UInt8 := l.flatMap enc
theorem eb_drop (i : Nat) (h : i < items.length) : eb enc (items.drop i) = enc items[i] ++ eb enc (items.drop (i + 1)) := by
  simp only [eb, List.drop_eq_getElem_cons h, List.flatMap_cons]

theorem kidsLoop (hl : items.length ≤ 1000000) (h0 : 0 < items.length) (ht : ∀ x ∈ items, ∀ r, ACalls Tryd.prog noG 34 [.agg [.lit (.slice none 0 0), .lit (.int .i64 c.toNat)], .bts (enc x ++ r), .lit (.int .i64 7)] [] (.tup [.agg (itC k x), .bts r, .lit (.bool true)]) []) :
    CodeC Tryd.prog noG 141 (.loop (loopAt Tryd.f50 0)) [(10, .ptr 0 0), (5, .ptr 1 0), (18, .ptr 2 0), (22, .lit (.int .u64 (0 : Nat))), (16, .lit (.int .u64 items.length)), (14, .bts (eb enc items)), (4, .lit (.int .i64 8)), (17, .lit (.bool true)), (15, .bts [])]
      [.cells 29 6 [.lit (.int .i64 0), .lit (.int .u64 0), .lit (.string .empty), .lit (.slice none 0 0), .lit (.int .i64 0), .lit (.slice none 0 0)], .cells 29 6 (arrC 0 (.lit (.slice none 0 0))), .cells 83 2 [.lit (.slice none 0 0), .lit (.int .i64 c.toNat)]]
      (.exit 0) [(10, .ptr 0 0), (5, .ptr 1 0), (15, .bts []), (14, .bts [])]
      [.cells 29 6 [.lit (.int .i64 0), .lit (.int .u64 0), .lit (.string .empty), .lit (.slice none 0 0), .lit (.int .i64 0), .lit (.slice none 0 0)], .cells 29 6 (arrC 0 (.own 3 0 items.length none)), .cells 83 2 [.lit (.slice none 0 0), .lit (.int .i64 c.toNat)], .cells 29 6 (flatC (itC k) items)] := by
  have K := itC_cells k
  have wi : ∀ i : Nat, i ≤ 1000000 → IntKind.u64.wrap ((i : Int) + 1) = ((i + 1 : Nat) : Int) := fun i h => by rw [wrapU64]; omega
  have hren : ∀ f i, Row.ren f (.cells 29 6 (flatC (itC k) (items.take i))) = .cells 29 6 (flatC (itC k) (items.take i)) := fun f i => by simp only [Row.ren, K.flatC_ren]
  have key := growNil (P := Tryd.prog) (G := noG) (k := 3) (n := 141) (c := loopAt Tryd.f50 0) (N := items.length) (ex := .exit 0)
    (fun i _ => [(10, .ptr 0 0), (5, .ptr 1 0), (18, .ptr 2 0), (22, .lit (.int .u64 i)), (16, .lit (.int .u64 items.length)), (14, .bts (eb enc (items.drop i))), (4, .lit (.int .i64 8)), (17, .lit (.bool true)), (15, .bts [])])
    (fun _ => [(10, .ptr 0 0), (5, .ptr 1 0), (15, .bts []), (14, .bts [])])
    (fun w => [.cells 29 6 [.lit (.int .i64 0), .lit (.int .u64 0), .lit (.string .empty), .lit (.slice none 0 0), .lit (.int .i64 0), .lit (.slice none 0 0)], .cells 29 6 (arrC 0 w), .cells 83 2 [.lit (.slice none 0 0), .lit (.int .i64 c.toNat)]])
    (fun i => .cells 29 6 (flatC (itC k) (items.take i))) (fun i => i) (by simp) [some 0, some 1, some 2, some 4] (.lit (.slice none 0 0)) h0
    (by
      have a := ht items[0] (List.getElem_mem _) (eb enc (items.drop 1))
      have e := iln k c.toNat items.length (eb enc (items.drop 0)) [] (eb enc (items.drop 1)) items[0] (0 : Nat)
      rw [eb_drop items enc 0 h0] at e ⊢
      simp only [wi 0 (by omega)] at e
      refine (e ?_).cast rfl rfl rfl ?_
      · (simp only [AllP, leAll]; repeat' (first | with_reducible apply And.intro | exact trivial | with_reducible rfl | with_reducible exact Le.refl _ | with_reducible exact RowLe.refl _ | assumption | exact Le.refl _ | exact RowLe.refl _ | omega | (simp <;> omega)))
      · show _ = [_, _, _, Row.cells 29 6 (flatC (itC k) (items.take (0 + 1)))]
        rw [flatC_snoc items 0 h0]; rfl)
    (fun i hi0 hi => by
      have a := ht items[i] (List.getElem_mem _) (eb enc (items.drop (i + 1)))
      have e := ilo k c.toNat items.length (eb enc (items.drop i)) [] (eb enc (items.drop (i + 1))) items[i] i i (flatC (itC k) (items.take i))
      have t := K.flatC_take items i (by omega)
      have r := flatC_snoc (C := itC k) items i hi
      have q : ∀ f, AV.renL f (flatC (itC k) (items.take i) ++ [AV.lit (.int .i64 k), .lit (.int .u64 items[i].1), .lit (.string items[i].2), .lit (.slice none 0 0), .lit (.int .i64 0), .lit (.slice none 0 0)]) = flatC (itC k) (items.take (i + 1)) := fun f => by rw [r, renL_app', K.flatC_ren]; rfl
      rw [eb_drop items enc i hi] at e ⊢
      simp only [wi i (by omega), Int.toNat_natCast, List.drop_zero, t, q] at e
      exact e (by (simp only [AllP, leAll]; repeat' (first | with_reducible apply And.intro | exact trivial | with_reducible rfl | with_reducible exact Le.refl _ | with_reducible exact RowLe.refl _ | assumption | exact Le.refl _ | exact RowLe.refl _ | omega | (simp <;> omega)))))
    (by
      have e := ilx k c.toNat items.length [] [] items.length items.length (flatC (itC k) (items.take items.length)) (by simp [AllP])
      rw [K.flatC_ren] at e
      have hd : eb enc (items.drop items.length) = [] := by simp [eb]
      rw [hd]
      exact e)
    (fun i hi => rfl) (fun i hi => rfl)
    (fun i hi => congrArg (fun x => [Row.cells 29 6 [.lit (.int .i64 0), .lit (.int .u64 0), .lit (.string .empty), .lit (.slice none 0 0), .lit (.int .i64 0), .lit (.slice none 0 0)], .cells 29 6 (arrC 0 (.own 3 0 (i + 1) none)), .cells 83 2 [.lit (.slice none 0 0), .lit (.int .i64 c.toNat)], x]) (hren _ (i + 1)))
    [some 0, some 1, some 2, some 3] rfl rfl rfl rfl
    (fun i => congrArg (fun x => [Row.cells 29 6 [.lit (.int .i64 0), .lit (.int .u64 0), .lit (.string .empty), .lit (.slice none 0 0), .lit (.int .i64 0), .lit (.slice none 0 0)], .cells 29 6 (arrC 0 (.own 3 0 i none)), .cells 83 2 [.lit (.slice none 0 0), .lit (.int .i64 c.toNat)], x]) (hren _ i)) rfl
  simp only [List.take_length, List.drop_zero] at key
  exact key

/-- What stands in an array behind its size, read: its count, its constructor, its elements. -/
theorem arrWithin (w : Nat) (cnt : List UInt8) (e s : Int) (hw : 0 < w) (hw2 : w < 1000) (hc : cnt.length = w) (hn : bigA 0 cnt = items.length) (hl : items.length ≤ 1000000) (hb : (eb enc items).length ≤ 100000000) (hc0 : c.toNat ≠ 0)
    (hk : ACalls Tryd.prog noG 48 [.lit (.int .i64 c.toNat)] [] (.tup [.lit (.int .i64 e), .lit (.int .i64 s), .lit (.bool true)]) [])
    (ht : ∀ x ∈ items, ∀ r, ACalls Tryd.prog noG 34 [.agg [.lit (.slice none 0 0), .lit (.int .i64 c.toNat)], .bts (enc x ++ r), .lit (.int .i64 7)] [] (.tup [.agg (itC k x), .bts r, .lit (.bool true)]) []) :
    ∃ x, ACalls Tryd.prog noG 50 [.agg (arrC 0 (.lit (.slice none 0 0))), .lit (.int .u64 (cnt ++ c :: eb enc items).length), .lit (.int .i64 w), .bts (cnt ++ c :: eb enc items), .lit (.int .i64 8)] [] (.tup [arrA k x items, .bts [], .lit (.bool true)]) [] := by
  have hlen : (cnt ++ c :: eb enc items).length = w + 1 + (eb enc items).length := by simp [hc]; omega
  generalize ha : cnt ++ c :: eb enc items = a at hlen
  have tb : ACalls Tryd.prog noG 49 [.bts a, .lit (.int .i64 w)] [] (.tup [.lit (.int .u64 items.length), .bts (c :: eb enc items), .lit (.bool true)]) [] := by
    rw [← ha, ← hn, ← hc]
    exact (takeBig (cnt ++ c :: eb enc items) cnt.length (by simp) (by omega)).cast rfl rfl (by simp) rfl
  have w1 : IntKind.u64.wrap (a.length : Int) = a.length := by rw [wrapU64]; omega
  have w2 : IntKind.u64.wrap (w : Int) = w := by rw [wrapU64]; omega
  have w3 : IntKind.i64.wrap (c.toNat : Int) = c.toNat := by have := c.toNat_lt; exact wrap64 (by omega) (by omega)
  have tc : ACalls Tryd.prog noG 33 [.bts (c :: eb enc items), .lit (.int .i64 7)] [] (.tup [.agg [.lit (.slice none 0 0), .lit (.int .i64 c.toNat)], .bts (eb enc items), .lit (.bool true)]) [] := by
    refine (c33 c (eb enc items) (by simp [AllP]; omega)).cast rfl rfl ?_ rfl
    show AV.tup [.agg [_, .lit (.int .i64 (IntKind.i64.wrap (c.toNat : Int)))], .bts (List.drop 1 (List.take ((eb enc items).length + 1) (c :: eb enc items))), _] = _
    rw [w3]
    simp
  have d1 : decide ((a.length : Int) > (a.length : Int)) = false := by simp
  have d2 : decide ((a.length : Int) < (w : Int)) = false := by simp; omega
  have d3 : decide ((items.length : Int) > 1048576) = false := by simp; omega
  rcases Nat.eq_zero_or_pos items.length with h0 | h0
  · obtain rfl := List.eq_nil_of_length_eq_zero h0
    have q := k50z a.length w 0 c.toNat e s a a (c :: eb enc []) (eb enc [])
    simp only [w1, w2, d1, d2, Int.toNat_natCast, Int.toNat_zero, List.drop_zero, List.take_length, List.drop_length] at q
    refine ⟨e, (q (by (simp only [AllP, leAll]; repeat' (first | with_reducible apply And.intro | exact trivial | with_reducible rfl | with_reducible exact Le.refl _ | with_reducible exact RowLe.refl _ | assumption | exact Le.refl _ | exact RowLe.refl _ | omega | (simp <;> omega))))).le (args' := _) ?_ ?_ rfl⟩
    · exact ⟨Le.refl _, Le.refl _, Le.refl _, Le.refl _, Le.refl _, trivial⟩
    · exact Le_tup ⟨Le_agg ⟨Le.refl _, Le.refl _, Le.refl _, Le_nil_ro, Le.refl _, Le.refl _, trivial⟩, Le.refl _, Le.refl _, trivial⟩
  · have lp := kidsLoop k c items enc hl h0 ht
    have q := k50 a.length w items.length c.toNat a a (c :: eb enc items) (eb enc items) [] items.length (flatC (itC k) items)
    simp only [w1, w2, d1, d2, Int.toNat_natCast, Int.toNat_zero, List.drop_zero, List.take_length, List.drop_length, (itC_cells k).flatC_ren] at q
    have z : (((items.length : Int)) == 0) = false := by rw [beq_eq_false_iff_ne]; omega
    have r := q (by (simp only [AllP, leAll]; repeat' (first | with_reducible apply And.intro | exact trivial | with_reducible rfl | with_reducible exact Le.refl _ | with_reducible exact RowLe.refl _ | assumption | exact Le.refl _ | exact RowLe.refl _ | omega | (simp <;> omega))))
    have h2 := (r.freezeRet 0 rfl ((itC_cells k).flatC_closed items)).only [] (by rfl)
    refine ⟨0, h2.le (args' := _) ?_ ?_ rfl⟩
    · exact ⟨Le.refl _, Le.refl _, Le.refl _, Le.refl _, Le.refl _, trivial⟩
    · exact Le_tup ⟨Le_agg ⟨Le.refl _, Le.refl _, Le.refl _, (itC_cells k).le_ro items (fun i hi => by rw [getT items i hi]), Le.refl _, Le.refl _, trivial⟩, Le.refl _, Le.refl _, trivial⟩
end
end Go.Ax
