/-
  Arrays of AMQP: their heads, written; arrays read back; values compared.
-/
import Derived.Test.YtemlccbnicdfgaaDoorUaB
import Derived.Test.YtemlccbnicdfgaaDoorTkC
import Derived.Test.YtemlccbnicdfgaaDoorAx31
set_option linter.unusedVariables false
set_option linter.unusedSimpArgs false
set_option maxRecDepth 100000
namespace Go.Ax
open Go.Proofs
theorem noDataIdle : IdleD Tryd.prog 10 := idle_of2 (fn := Tryd.f10) Tryd.func10 (by kernel_rfl) (by kernel_rfl) (fun ρ => by kernel_rfl) (by kernel_rfl)
theorem byteI_toNat (v : Int) : UInt8.ofNat (v % 256).toNat = byteI v := rfl
def bufRow (w : AV) : Row := .cells 42 2 [w, .lit (.int .i64 0)]
theorem apN (bs : List UInt8) (c : Nat) (h0 : 0 < bs.length) (h1 : bs.length ≤ 1000000) : ACalls Tryd.prog noG 26 [.ptr 0 0, .own 1 0 bs.length (some c)] [bufRow (.lit (.slice none 0 0)), .bytes 5 bs] (.tup []) [bufRow (.own 2 0 bs.length none), .bytes 5 bs, .bytes 5 bs] :=
  (apn bs c (by simp [AllP]; omega)).cast rfl rfl rfl (by simp [bufRow])
def b4 (v : Int) : List UInt8 := [byteI (v / 16777216), byteI (v / 65536), byteI (v / 256), byteI v]
theorem app32 (bs : List UInt8) (v : Int) (h : bs.length ≤ 1000000) (h0 : 0 ≤ v) (h1 : v < 4294967296) : ACalls Tryd.prog noG 24 [.ptr 0 0, .lit (.int .u32 v)] [bufRow (.own 1 0 bs.length none), .bytes 5 bs] (.tup []) [bufRow (.own 2 0 (bs ++ b4 v).length none), .gone, .bytes 5 (bs ++ b4 v)] := by
  have f1 : v.fdiv 256 = v / 256 := by rw [Int.fdiv_eq_ediv_of_nonneg _ (by omega)]
  have f2 : v.fdiv 65536 = v / 65536 := by rw [Int.fdiv_eq_ediv_of_nonneg _ (by omega)]
  have f3 : v.fdiv 16777216 = v / 16777216 := by rw [Int.fdiv_eq_ediv_of_nonneg _ (by omega)]
  have e := a4o bs v
  simp only [f1, f2, f3, wrapU8, byteI_toNat] at e
  refine (e ?_).cast rfl rfl rfl (by simp [b4, bufRow])
  simp only [AllP]
  refine ⟨by omega, by omega, ⟨by omega, by omega⟩, ⟨by omega, by omega⟩, ⟨by omega, by omega⟩, ⟨by omega, by omega⟩, by omega, by omega, by omega, trivial⟩
theorem app8 (bs : List UInt8) (c : UInt8) (h : bs.length ≤ 1000000) : ACalls Tryd.prog noG 20 [.ptr 0 0, .lit (.int .u8 c.toNat)] [bufRow (.own 1 0 bs.length none), .bytes 5 bs] (.tup []) [bufRow (.own 2 0 (bs ++ [c]).length none), .gone, .bytes 5 (bs ++ [c])] := by
  have hc := c.toNat_lt
  have e := abo bs c.toNat (by simp only [AllP]; exact ⟨by omega, by omega, ⟨by omega, by omega⟩, trivial⟩)
  exact e.cast rfl rfl rfl (by simp [bufRow])
theorem app0 (c : UInt8) : ACalls Tryd.prog noG 20 [.ptr 0 0, .lit (.int .u8 c.toNat)] [bufRow (.lit (.slice none 0 0))] (.tup []) [bufRow (.own 1 0 1 none), .bytes 5 [c]] := by
  have hc := c.toNat_lt
  exact (abn c.toNat (by simp only [AllP]; exact ⟨by omega, ⟨by omega, by omega⟩, ⟨by omega, by omega⟩, trivial⟩)).cast rfl rfl rfl (by simp [bufRow])
def encH (z n : Int) (c : UInt8) : List UInt8 := if z + 2 ≤ 255 then [224, byteI (z + 2), byteI n, c] else [240] ++ b4 (z + 5) ++ b4 n ++ [c]
theorem headArr (n s : Int) (c : UInt8) (h0 : 0 ≤ n) (h1 : 0 ≤ s) (h2 : n ≤ 1000000) (h3 : 0 ≤ n * s) (h4 : n * s ≤ 1000000000) (h5 : n ≤ n * s) : ACalls Tryd.prog noG 18 [.ptr 0 0, .lit (.int .i64 n), .lit (.int .i64 s), .lit (.int .u8 c.toNat)] [bufRow (.lit (.slice none 0 0))] (.tup []) [bufRow (.own 1 0 (encH (n * s) n c).length none), .bytes 5 (encH (n * s) n c)] := by
  have hc := c.toNat_lt
  have w1 : IntKind.i64.wrap (n * s) = n * s := wrap64 (by omega) (by omega)
  have w2 : IntKind.i64.wrap (n * s + 2) = n * s + 2 := wrap64 (by omega) (by omega)
  have w3 : IntKind.i64.wrap (n * s + 5) = n * s + 5 := wrap64 (by omega) (by omega)
  by_cases h : n * s + 2 ≤ 255
  · have a := apN [224, byteI (n * s + 2), byteI n, c] 4 (by simp) (by simp)
    have he : encH (n * s) n c = [224, byteI (n * s + 2), byteI n, c] := by simp [encH, h]
    rw [he]
    have b : ∀ x : UInt8, UInt8.ofNat ((x.toNat : Int).toNat) = x := fun x => by simp
    have b2 : ∀ x : UInt8, UInt8.ofNat x.toNat = x := fun x => by simp
    have q := ahs n s ((n * s + 2) % 256) (n % 256) c.toNat
    simp only [w1, w2, w3, wrapU8, byteI_toNat, b, b2, Int.toNat_natCast] at q
    refine q ?_
    (simp only [AllP, leAll]; repeat' (first | with_reducible apply And.intro | exact trivial | with_reducible rfl | with_reducible exact Le.refl _ | with_reducible exact RowLe.refl _ | assumption | exact Le.refl _ | exact RowLe.refl _ | omega | (simp <;> omega)))
  · have he : encH (n * s) n c = [240] ++ b4 (n * s + 5) ++ b4 n ++ [c] := by simp [encH, h]
    rw [he]
    have w4 : IntKind.u32.wrap (n * s + 5) = n * s + 5 := by rw [wrapU32]; omega
    have w5 : IntKind.u32.wrap n = n := by rw [wrapU32]; omega
    have q := ahb n s (n * s + 5) n c.toNat ([240] ++ b4 (n * s + 5)) ([240] ++ b4 (n * s + 5) ++ b4 n) ([240] ++ b4 (n * s + 5) ++ b4 n ++ [c])
    simp only [w1, w2, w3, w4, w5] at q
    have a1 := app0 240
    have a2 := app32 [240] (n * s + 5) (by simp) (by omega) (by omega)
    have a3 := app32 ([240] ++ b4 (n * s + 5)) n (by simp [b4]) (by omega) (by omega)
    have a4 := app8 ([240] ++ b4 (n * s + 5) ++ b4 n) c (by simp [b4])
    refine q ?_
    (simp only [AllP, leAll]; repeat' (first | with_reducible apply And.intro | exact trivial | with_reducible rfl | with_reducible exact Le.refl _ | with_reducible exact RowLe.refl _ | assumption | exact Le.refl _ | exact RowLe.refl _ | omega | (simp <;> omega)))
theorem encH_len (z n : Int) (c : UInt8) : 0 < (encH z n c).length ∧ (encH z n c).length ≤ 10 := by
  unfold encH
  split <;> simp [b4]
theorem ix (i : Nat) (h : i ≤ 1000000000000) : IntKind.i64.wrap ((i : Int) + 1) = ((i + 1 : Nat) : Int) := by rw [wrap64 (by omega) (by omega)]; simp
theorem getI (l : List Int) (i : Nat) (h : i < l.length) : l.getD i 0 = l[i] := by simp [h]

/-! ### An array of AMQP, read back -/
abbrev It := Int × ByteArray
theorem itC_cells (k : Int) : LCells (itC k) 6 := ⟨fun x => rfl, fun f x => rfl, fun x => rfl⟩
theorem getT (l : List It) (i : Nat) (h : i < l.length) : l.getD i (0, .empty) = l[i] := by simp [h]
section
variable (k : Int) (c : UInt8) (items : List It) (enc : It → List UInt8)
def eb (l : List It) : List UInt8 := l.flatMap enc
theorem eb_drop (i : Nat) (h : i < items.length) : eb enc (items.drop i) = enc items[i] ++ eb enc (items.drop (i + 1)) := by
  simp only [eb, List.drop_eq_getElem_cons h, List.flatMap_cons]
theorem eb_drop_len : ∀ i, (eb enc (items.drop i)).length ≤ (eb enc items).length := fun i => by
  have h : eb enc items = eb enc (items.take i) ++ eb enc (items.drop i) := by simp only [eb, ← List.flatMap_append, List.take_append_drop]
  rw [h, List.length_append]; omega

theorem kidsLoop (hb : (eb enc items).length ≤ 100000000) (hl : items.length ≤ 1000000) (h0 : 0 < items.length) (ht : ∀ x ∈ items, ∀ r : List UInt8, r.length ≤ 100000000 → ACalls Tryd.prog noG 22 [.agg [.lit (.slice none 0 0), .lit (.int .i64 c.toNat)], .bts (enc x ++ r), .lit (.int .i64 7)] [] (.tup [.agg (itC k x), .bts r, .lit (.bool true)]) []) :
    CodeC Tryd.prog noG 141 (.loop (loopAt Tryd.f29 0)) [(10, .ptr 0 0), (5, .ptr 1 0), (18, .ptr 2 0), (22, .lit (.int .u64 (0 : Nat))), (16, .lit (.int .u64 items.length)), (14, .bts (eb enc items)), (4, .lit (.int .i64 8)), (17, .lit (.bool true)), (15, .bts [])]
      [.cells 30 6 [.lit (.int .i64 0), .lit (.int .u64 0), .lit (.string .empty), .lit (.slice none 0 0), .lit (.int .i64 0), .lit (.slice none 0 0)], .cells 30 6 (arrC 0 (.lit (.slice none 0 0))), .cells 59 2 [.lit (.slice none 0 0), .lit (.int .i64 c.toNat)]]
      (.exit 0) [(10, .ptr 0 0), (5, .ptr 1 0), (15, .bts []), (14, .bts [])]
      [.cells 30 6 [.lit (.int .i64 0), .lit (.int .u64 0), .lit (.string .empty), .lit (.slice none 0 0), .lit (.int .i64 0), .lit (.slice none 0 0)], .cells 30 6 (arrC 0 (.own 3 0 items.length none)), .cells 59 2 [.lit (.slice none 0 0), .lit (.int .i64 c.toNat)], .cells 30 6 (flatC (itC k) items)] := by
  have K := itC_cells k
  have wi : ∀ i : Nat, i ≤ 1000000 → IntKind.u64.wrap ((i : Int) + 1) = ((i + 1 : Nat) : Int) := fun i h => by rw [wrapU64]; omega
  have hren : ∀ f i, Row.ren f (.cells 30 6 (flatC (itC k) (items.take i))) = .cells 30 6 (flatC (itC k) (items.take i)) := fun f i => by simp only [Row.ren, K.flatC_ren]
  have key := growNil (P := Tryd.prog) (G := noG) (k := 3) (n := 141) (c := loopAt Tryd.f29 0) (N := items.length) (ex := .exit 0)
    (fun i _ => [(10, .ptr 0 0), (5, .ptr 1 0), (18, .ptr 2 0), (22, .lit (.int .u64 i)), (16, .lit (.int .u64 items.length)), (14, .bts (eb enc (items.drop i))), (4, .lit (.int .i64 8)), (17, .lit (.bool true)), (15, .bts [])])
    (fun _ => [(10, .ptr 0 0), (5, .ptr 1 0), (15, .bts []), (14, .bts [])])
    (fun w => [.cells 30 6 [.lit (.int .i64 0), .lit (.int .u64 0), .lit (.string .empty), .lit (.slice none 0 0), .lit (.int .i64 0), .lit (.slice none 0 0)], .cells 30 6 (arrC 0 w), .cells 59 2 [.lit (.slice none 0 0), .lit (.int .i64 c.toNat)]])
    (fun i => .cells 30 6 (flatC (itC k) (items.take i))) (fun i => i) (by simp) [some 0, some 1, some 2, some 4] (.lit (.slice none 0 0)) h0
    (by
      have a := ht items[0] (List.getElem_mem _) (eb enc (items.drop 1)) (Nat.le_trans (eb_drop_len items enc 1) hb)
      have e := iln k c.toNat items.length (eb enc (items.drop 0)) [] (eb enc (items.drop 1)) items[0] (0 : Nat)
      rw [eb_drop items enc 0 h0] at e ⊢
      simp only [wi 0 (by omega)] at e
      refine (e ?_).cast rfl rfl rfl ?_
      · (simp only [AllP, leAll]; repeat' (first | with_reducible apply And.intro | exact trivial | with_reducible rfl | with_reducible exact Le.refl _ | with_reducible exact RowLe.refl _ | assumption | exact Le.refl _ | exact RowLe.refl _ | omega | (simp <;> omega)))
      · show _ = [_, _, _, Row.cells 30 6 (flatC (itC k) (items.take (0 + 1)))]
        rw [flatC_snoc items 0 h0]; rfl)
    (fun i hi0 hi => by
      have a := ht items[i] (List.getElem_mem _) (eb enc (items.drop (i + 1))) (Nat.le_trans (eb_drop_len items enc (i + 1)) hb)
      have e := ilo k c.toNat items.length (eb enc (items.drop i)) [] (eb enc (items.drop (i + 1))) items[i] i i (flatC (itC k) (items.take i))
      have t := K.flatC_take items i (by omega)
      have r := flatC_snoc (C := itC k) items i hi
      have q : ∀ f, AV.renL f (flatC (itC k) (items.take i) ++ [AV.lit (.int .i64 k), .lit (.int .u64 items[i].1), .lit (.string items[i].2), .lit (.slice none 0 0), .lit (.int .i64 0), .lit (.slice none 0 0)]) = flatC (itC k) (items.take (i + 1)) := fun f => by rw [r, renL_app', K.flatC_ren]; rfl
      rw [eb_drop items enc i hi] at e ⊢
      simp only [wi i (by omega), Int.toNat_natCast, List.drop_zero, t, q] at e
      exact e (by (simp only [AllP, leAll]; repeat' (first | with_reducible apply And.intro | exact trivial | with_reducible rfl | with_reducible exact Le.refl _ | with_reducible exact RowLe.refl _ | assumption | exact Le.refl _ | exact RowLe.refl _ | omega | (simp <;> omega)))))
    (by
      have e := ilx k c.toNat items.length [] [] items.length items.length (flatC (itC k) (items.take items.length)) (by simp [AllP])
      rw [K.flatC_ren] at e
      have hd : eb enc (items.drop items.length) = [] := by simp [eb]
      rw [hd]
      exact e)
    (fun i hi => rfl) (fun i hi => rfl)
    (fun i hi => congrArg (fun x => [Row.cells 30 6 [.lit (.int .i64 0), .lit (.int .u64 0), .lit (.string .empty), .lit (.slice none 0 0), .lit (.int .i64 0), .lit (.slice none 0 0)], .cells 30 6 (arrC 0 (.own 3 0 (i + 1) none)), .cells 59 2 [.lit (.slice none 0 0), .lit (.int .i64 c.toNat)], x]) (hren _ (i + 1)))
    [some 0, some 1, some 2, some 3] rfl rfl rfl rfl
    (fun i => congrArg (fun x => [Row.cells 30 6 [.lit (.int .i64 0), .lit (.int .u64 0), .lit (.string .empty), .lit (.slice none 0 0), .lit (.int .i64 0), .lit (.slice none 0 0)], .cells 30 6 (arrC 0 (.own 3 0 i none)), .cells 59 2 [.lit (.slice none 0 0), .lit (.int .i64 c.toNat)], x]) (hren _ i)) rfl
  simp only [List.take_length, List.drop_zero] at key
  exact key
/-- What stands in an array behind its size, read: its count, its constructor, its elements. -/
theorem arrWithin (w : Nat) (cnt : List UInt8) (e s : Int) (hw : 0 < w) (hw2 : w < 1000) (hc : cnt.length = w) (hn : bigA 0 cnt = items.length) (hl : items.length ≤ 1000000) (hb : (eb enc items).length ≤ 100000000) (hc0 : c.toNat ≠ 0)
    (hk : ACalls Tryd.prog noG 27 [.lit (.int .i64 c.toNat)] [] (.tup [.lit (.int .i64 e), .lit (.int .i64 s), .lit (.bool true)]) [])
    (ht : ∀ x ∈ items, ∀ r : List UInt8, r.length ≤ 100000000 → ACalls Tryd.prog noG 22 [.agg [.lit (.slice none 0 0), .lit (.int .i64 c.toNat)], .bts (enc x ++ r), .lit (.int .i64 7)] [] (.tup [.agg (itC k x), .bts r, .lit (.bool true)]) []) :
    ∃ x, ACalls Tryd.prog noG 29 [.agg (arrC 0 (.lit (.slice none 0 0))), .lit (.int .u64 (cnt ++ c :: eb enc items).length), .lit (.int .i64 w), .bts (cnt ++ c :: eb enc items), .lit (.int .i64 8)] [] (.tup [arrA k x items, .bts [], .lit (.bool true)]) [] := by
  have hlen : (cnt ++ c :: eb enc items).length = w + 1 + (eb enc items).length := by simp [hc]; omega
  generalize ha : cnt ++ c :: eb enc items = a at hlen
  have tb : ACalls Tryd.prog noG 28 [.bts a, .lit (.int .i64 w)] [] (.tup [.lit (.int .u64 items.length), .bts (c :: eb enc items), .lit (.bool true)]) [] := by
    rw [← ha, ← hn, ← hc]
    exact (takeBig (cnt ++ c :: eb enc items) cnt.length (by simp) (by omega)).cast rfl rfl (by simp) rfl
  have w1 : IntKind.u64.wrap (a.length : Int) = a.length := by rw [wrapU64]; omega
  have w2 : IntKind.u64.wrap (w : Int) = w := by rw [wrapU64]; omega
  have w3 : IntKind.i64.wrap (c.toNat : Int) = c.toNat := by have := c.toNat_lt; exact wrap64 (by omega) (by omega)
  have tc : ACalls Tryd.prog noG 21 [.bts (c :: eb enc items), .lit (.int .i64 7)] [] (.tup [.agg [.lit (.slice none 0 0), .lit (.int .i64 c.toNat)], .bts (eb enc items), .lit (.bool true)]) [] := by
    refine (c33 c (eb enc items) (by simp [AllP]; omega)).cast rfl rfl ?_ rfl
    show AV.tup [.agg [_, .lit (.int .i64 (IntKind.i64.wrap (c.toNat : Int)))], .bts (List.drop 1 (List.take ((eb enc items).length + 1) (c :: eb enc items))), _] = _
    rw [w3]
    simp
  have d1 : decide ((a.length : Int) > (a.length : Int)) = false := by simp
  have d2 : decide ((a.length : Int) < (w : Int)) = false := by simp; omega
  have d3 : decide ((items.length : Int) > 1048576) = false := by simp; omega
  rcases Nat.eq_zero_or_pos items.length with h0 | h0
  · obtain rfl := List.eq_nil_of_length_eq_zero h0
    have q := k50z a.length w 0 c.toNat e s a a (c :: eb enc []) (eb enc [])
    simp only [w1, w2, d1, d2, Int.toNat_natCast, Int.toNat_zero, List.drop_zero, List.take_length, List.drop_length] at q
    refine ⟨e, (q (by (simp only [AllP, leAll]; repeat' (first | with_reducible apply And.intro | exact trivial | with_reducible rfl | with_reducible exact Le.refl _ | with_reducible exact RowLe.refl _ | assumption | exact Le.refl _ | exact RowLe.refl _ | omega | (simp <;> omega))))).le (args' := _) ?_ ?_ rfl⟩
    · exact ⟨Le.refl _, Le.refl _, Le.refl _, Le.refl _, Le.refl _, trivial⟩
    · exact Le_tup ⟨Le_agg ⟨Le.refl _, Le.refl _, Le.refl _, Le_nil_ro, Le.refl _, Le.refl _, trivial⟩, Le.refl _, Le.refl _, trivial⟩
  · have lp := kidsLoop k c items enc hb hl h0 ht
    have q := k50 a.length w items.length c.toNat a a (c :: eb enc items) (eb enc items) [] items.length (flatC (itC k) items)
    simp only [w1, w2, d1, d2, Int.toNat_natCast, Int.toNat_zero, List.drop_zero, List.take_length, List.drop_length, (itC_cells k).flatC_ren] at q
    have z : (((items.length : Int)) == 0) = false := by rw [beq_eq_false_iff_ne]; omega
    have r := q (by (simp only [AllP, leAll]; repeat' (first | with_reducible apply And.intro | exact trivial | with_reducible rfl | with_reducible exact Le.refl _ | with_reducible exact RowLe.refl _ | assumption | exact Le.refl _ | exact RowLe.refl _ | omega | (simp <;> omega))))
    have h2 := (r.freezeRet 0 rfl ((itC_cells k).flatC_closed items)).only [] (by rfl)
    refine ⟨0, h2.le (args' := _) ?_ ?_ rfl⟩
    · exact ⟨Le.refl _, Le.refl _, Le.refl _, Le.refl _, Le.refl _, trivial⟩
    · exact Le_tup ⟨Le_agg ⟨Le.refl _, Le.refl _, Le.refl _, (itC_cells k).le_ro items (fun i hi => by rw [getT items i hi]), Le.refl _, Le.refl _, trivial⟩, Le.refl _, Le.refl _, trivial⟩
end

theorem k33n (c : UInt8) (l : List UInt8) (n : Int) (h0 : c.toNat ≠ 0) (hn : IntKind.i64.wrap (c.toNat : Int) = n) : ACalls Tryd.prog noG 21 [.bts (c :: l), .lit (.int .i64 8)] [] (.tup [.agg [.lit (.slice none 0 0), .lit (.int .i64 n)], .bts l, .lit (.bool true)]) [] := by
  have e := k33 c l (by simp [AllP]; omega)
  subst hn
  refine e.cast rfl rfl ?_ rfl
  show AV.tup [_, .bts (List.drop 1 (List.take (l.length + 1) (c :: l))), _] = _
  rw [show List.drop 1 (List.take (l.length + 1) (c :: l)) = l by simp]
  rfl
theorem bigB (v : Int) (h0 : 0 ≤ v) (h1 : v < 256) : ((bigA 0 [byteI v] : Nat) : Int) = v := by
  have := big8 v
  rw [this]; omega
theorem bigB4 (v : Int) (h0 : 0 ≤ v) (h1 : v < 4294967296) : ((bigA 0 (b4 v) : Nat) : Int) = v := by
  have := big32 v
  rw [b4, this]; omega
theorem bigN (d e : List UInt8) (k : Nat) (n : Int) (h1 : d.length = k) (h2 : k < 1000) (h3 : ((bigA 0 d : Nat) : Int) = n) : ACalls Tryd.prog noG 28 [.bts (d ++ e), .lit (.int .i64 k)] [] (.tup [.lit (.int .u64 n), .bts e, .lit (.bool true)]) [] := by
  subst h1; subst h3
  exact (takeBig (d ++ e) d.length (by simp) h2).cast rfl rfl (by simp) rfl
section
variable (k : Int) (c : UInt8) (items : List It) (enc : It → List UInt8)
/-- An array, read. -/
theorem takeArr (e s : Int) (hz : (eb enc items).length ≤ 10000000) (hn : items.length ≤ (eb enc items).length) (hc0 : c.toNat ≠ 0)
    (hk : ACalls Tryd.prog noG 27 [.lit (.int .i64 c.toNat)] [] (.tup [.lit (.int .i64 e), .lit (.int .i64 s), .lit (.bool true)]) [])
    (ht : ∀ x ∈ items, ∀ r : List UInt8, r.length ≤ 100000000 → ACalls Tryd.prog noG 22 [.agg [.lit (.slice none 0 0), .lit (.int .i64 c.toNat)], .bts (enc x ++ r), .lit (.int .i64 7)] [] (.tup [.agg (itC k x), .bts r, .lit (.bool true)]) []) (hl : items.length ≤ 1000000) :
    ∃ x, ACalls Tryd.prog noG 14 [.bts (encH (eb enc items).length items.length c ++ eb enc items), .lit (.int .i64 8)] [] (.tup [arrA k x items, .bts [], .lit (.bool true)]) [] := by
  generalize hzz : (eb enc items).length = z at hz hn
  by_cases h : (z : Int) + 2 ≤ 255
  · obtain ⟨x, hx⟩ := arrWithin k c items enc 1 [byteI items.length] e s (by omega) (by omega) rfl (by have := bigB items.length (by omega) (by omega); omega) hl (by omega) hc0 hk ht
    have he : encH z items.length c ++ eb enc items = 224 :: ([byteI ((z : Int) + 2)] ++ ([byteI items.length] ++ c :: eb enc items)) := by simp [encH, h]
    have hlen : ([byteI items.length] ++ c :: eb enc items).length = z + 2 := by simp [hzz]
    rw [he]
    generalize hd : [byteI items.length] ++ c :: eb enc items = d at hx hlen
    have hb := bigN [byteI ((z : Int) + 2)] d 1 d.length rfl (by omega) (by rw [bigB _ (by omega) (by omega), hlen]; omega)
    have hk2 : ACalls Tryd.prog noG 27 [.lit (.int .i64 224)] [] (.tup [.lit (.int .i64 23), .lit (.int .i64 1), .lit (.bool true)]) [] := k48_224 (by simp [AllP])
    have t := a34_224 k x ([byteI ((z : Int) + 2)] ++ d) d [] d.length items (by (simp only [AllP, leAll]; repeat' (first | with_reducible apply And.intro | exact trivial | with_reducible rfl | with_reducible exact Le.refl _ | with_reducible exact RowLe.refl _ | assumption | exact Le.refl _ | exact RowLe.refl _ | omega | (simp <;> omega))))
    have g := k33n 224 ([byteI ((z : Int) + 2)] ++ d) 224 (by decide) (by decide)
    exact ⟨x, k21r 224 k x (224 :: ([byteI ((z : Int) + 2)] ++ d)) ([byteI ((z : Int) + 2)] ++ d) items (by (simp only [AllP, leAll]; repeat' (first | with_reducible apply And.intro | exact trivial | with_reducible rfl | with_reducible exact Le.refl _ | with_reducible exact RowLe.refl _ | assumption | exact Le.refl _ | exact RowLe.refl _ | omega | (simp <;> omega))))⟩
  · obtain ⟨x, hx⟩ := arrWithin k c items enc 4 (b4 items.length) e s (by omega) (by omega) rfl (by have := bigB4 items.length (by omega) (by omega); omega) hl (by omega) hc0 hk ht
    have he : encH z items.length c ++ eb enc items = 240 :: (b4 ((z : Int) + 5) ++ (b4 items.length ++ c :: eb enc items)) := by simp [encH, h]
    have hlen : (b4 items.length ++ c :: eb enc items).length = z + 5 := by simp [hzz, b4]
    rw [he]
    generalize hd : b4 items.length ++ c :: eb enc items = d at hx hlen
    have hb := bigN (b4 ((z : Int) + 5)) d 4 d.length rfl (by omega) (by rw [bigB4 _ (by omega) (by omega), hlen]; omega)
    have hk2 : ACalls Tryd.prog noG 27 [.lit (.int .i64 240)] [] (.tup [.lit (.int .i64 23), .lit (.int .i64 4), .lit (.bool true)]) [] := k48_240 (by simp [AllP])
    have t := a34_240 k x (b4 ((z : Int) + 5) ++ d) d [] d.length items (by (simp only [AllP, leAll]; repeat' (first | with_reducible apply And.intro | exact trivial | with_reducible rfl | with_reducible exact Le.refl _ | with_reducible exact RowLe.refl _ | assumption | exact Le.refl _ | exact RowLe.refl _ | omega | (simp <;> omega))))
    have g := k33n 240 (b4 ((z : Int) + 5) ++ d) 240 (by decide) (by decide)
    exact ⟨x, k21r 240 k x (240 :: (b4 ((z : Int) + 5) ++ d)) (b4 ((z : Int) + 5) ++ d) items (by (simp only [AllP, leAll]; repeat' (first | with_reducible apply And.intro | exact trivial | with_reducible rfl | with_reducible exact Le.refl _ | with_reducible exact RowLe.refl _ | assumption | exact Le.refl _ | exact RowLe.refl _ | omega | (simp <;> omega))))⟩
/-! ### The same value -/
omit c enc
theorem sameIt (x : It) : ACalls Tryd.prog noG 15 [.agg (itC k x), .agg (itC k x)] [] (.lit (.bool true)) [] := by
  have l := (LoopC.exit (svz k x (by simp [AllP])) (by simp)).code
  exact svi k x (by simp [AllP]; exact l)
theorem sameLoop (x y : Int) (hl : items.length ≤ 1000000000) : ∀ (m i : Nat), items.length - i = m → i ≤ items.length →
    LoopC Tryd.prog noG 77 (loopAt Tryd.f15 0) [(2, .ptr 0 0), (3, .ptr 1 0), (45, .lit (.int .i64 items.length)), (46, .lit (.int .i64 i))] [.cells 30 6 (arrC x (roK k items)), .cells 30 6 (arrC y (roK k items))] (.exit 0) [(2, .ptr 0 0), (3, .ptr 1 0)] [.cells 30 6 (arrC x (roK k items)), .cells 30 6 (arrC y (roK k items))]
  | 0, i, hk, hi => by
    obtain rfl : i = items.length := by omega
    exact LoopC.exit (svx k x y items items.length (by simp [AllP])) (by simp)
  | m + 1, i, hk, hi => by
    have hlt : i < items.length := by omega
    have a := sameIt k (items.getD i (0, .empty))
    have e := svl k x y items i
    simp only [ix i (by omega), Int.toNat_natCast] at e
    refine LoopC.step (e ?_) (sameLoop x y hl m (i + 1) (by omega) (by omega))
    (simp only [AllP, leAll]; repeat' (first | with_reducible apply And.intro | exact trivial | with_reducible rfl | with_reducible exact Le.refl _ | with_reducible exact RowLe.refl _ | assumption | exact Le.refl _ | exact RowLe.refl _ | omega | (simp <;> omega)))
theorem sameArr (x y : Int) (hl : items.length ≤ 1000000000) : ACalls Tryd.prog noG 15 [arrA k x items, arrA k y items] [] (.lit (.bool true)) [] := by
  have l := (sameLoop k items x y hl _ 0 rfl (Nat.zero_le _)).code
  refine svm k x y items ?_
  simp [AllP]
  exact l
theorem wroteArr (x : Int) (d : List UInt8) (hl : items.length ≤ 1000000000) (h : ACalls Tryd.prog noG 14 [.bts d, .lit (.int .i64 8)] [] (.tup [arrA k x items, .bts [], .lit (.bool true)]) []) : ACalls Tryd.prog noG 6 [.bts d, .lit (.bool true), arrA k 0 items] [] (.lit (.bool true)) [] := by
  have r := sameArr k items 0 x hl
  exact k8r k x d items (by (simp only [AllP, leAll]; repeat' (first | with_reducible apply And.intro | exact trivial | with_reducible rfl | with_reducible exact Le.refl _ | with_reducible exact RowLe.refl _ | assumption | exact Le.refl _ | exact RowLe.refl _ | omega | (simp <;> omega))))
end
end Go.Ax
