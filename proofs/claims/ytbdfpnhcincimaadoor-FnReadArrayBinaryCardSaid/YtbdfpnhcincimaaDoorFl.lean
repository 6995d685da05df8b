/-
  Rows of whole numbers that are filled cell by cell.
-/
import Derived.Test.YtbdfpnhcincimaaDoorVaA
set_option linter.unusedVariables false
open Go.Ax Go
/-- n numbers: the first i of them told by f, the others 0. -/
def Fill.ints (k : IntKind) (f : Nat → Int) (n i : Nat) : List AV := (List.range n).map fun j => .lit (.int k (if j < i then f j else 0))
def Fill.bools (f : Nat → Bool) (n i : Nat) : List AV := (List.range n).map fun j => .lit (.bool (if j < i then f j else false))
namespace Fill
@[simp] theorem ints_len (k : IntKind) (f : Nat → Int) (n i : Nat) : (ints k f n i).length = n := by simp [ints]
@[simp] theorem bools_len (f : Nat → Bool) (n i : Nat) : (bools f n i).length = n := by simp [bools]
theorem renL_lits (g : Nat → Option Nat) (v : Nat → Value) : ∀ l : List Nat, AV.renL g (l.map fun j => AV.lit (v j)) = l.map fun j => AV.lit (v j)
  | [] => rfl
  | x :: l => by simp only [List.map_cons, AV.renL, AV.ren, renL_lits g v l]
theorem closedL_lits (v : Nat → Value) : ∀ l : List Nat, AV.closedL (l.map fun j => AV.lit (v j)) = true
  | [] => rfl
  | x :: l => by simp only [List.map_cons, AV.closedL, AV.closed, closedL_lits v l, Bool.and_self]
@[simp] theorem ints_ren (g : Nat → Option Nat) (k : IntKind) (f : Nat → Int) (n i : Nat) : AV.renL g (ints k f n i) = ints k f n i := renL_lits g (fun j => .int k (if j < i then f j else 0)) _
@[simp] theorem bools_ren (g : Nat → Option Nat) (f : Nat → Bool) (n i : Nat) : AV.renL g (bools f n i) = bools f n i := renL_lits g (fun j => .bool (if j < i then f j else false)) _
@[simp] theorem ints_closed (k : IntKind) (f : Nat → Int) (n i : Nat) : AV.closedL (ints k f n i) = true := closedL_lits (fun j => .int k (if j < i then f j else 0)) _
@[simp] theorem bools_closed (f : Nat → Bool) (n i : Nat) : AV.closedL (bools f n i) = true := closedL_lits (fun j => .bool (if j < i then f j else false)) _
theorem rep_map (x : AV) : ∀ n, repL [x] n = (List.range n).map fun _ => x
  | 0 => rfl
  | n + 1 => by
    rw [repL, rep_map x n, List.range_succ_eq_map, List.map_cons, List.map_map]; rfl
theorem set_map (g h : Nat → AV) (n i : Nat) (x : AV) (hi : h i = x) (hg : ∀ j, j ≠ i → h j = g j) : setL ((List.range n).map g) i [x] = (List.range n).map h := by
  show ((List.range n).map g).set i x = _
  apply List.ext_getElem?
  intro j
  rw [List.getElem?_set]
  by_cases hj : i = j
  · subst hj
    by_cases hn : i < n
    · simp [hn, hi]
    · simp [hn]
  · rw [if_neg hj]
    by_cases hn : j < n
    · simp [hn, hg j (fun e => hj e.symm)]
    · simp [hn]
theorem slice1 (g : Nat → AV) (n i : Nat) (hi : i < n) : (((List.range n).map g).drop (0 + i * 1)).take 1 = [g i] := by
  rw [Nat.zero_add, Nat.mul_one, List.drop_eq_getElem_cons (by simpa using hi)]
  simp
end Fill
/-- Values of a kind, numbers alone, as the laws build them. -/
def Fill.leafs (k : Int) (w : Nat → Int) (n : Nat) : List AV := (List.range n).flatMap fun j => [.lit (.int .i64 k), .lit (.int .u64 (w j)), .lit (.string (ByteArray.mk #[])), .lit (.slice none 0 0), .lit (.int .i64 0), .lit (.slice none 0 0)]
def Fill.texts (k : Int) (w : Nat → ByteArray) (n : Nat) : List AV := (List.range n).flatMap fun j => [.lit (.int .i64 k), .lit (.int .u64 0), .lit (.string (w j)), .lit (.slice none 0 0), .lit (.int .i64 0), .lit (.slice none 0 0)]
namespace Fill
theorem flat_len (h : Nat → List AV) (s : Nat) (hh : ∀ j, (h j).length = s) (n : Nat) : ((List.range n).flatMap h).length = n * s := by
  induction n with
  | zero => simp
  | succ n ih => rw [List.range_succ, List.flatMap_append, List.length_append, ih]; simp [hh, Nat.succ_mul]
theorem flat_ren (g : Nat → Option Nat) (h : Nat → List AV) (hh : ∀ j, AV.renL g (h j) = h j) : ∀ l : List Nat, AV.renL g (l.flatMap h) = l.flatMap h
  | [] => rfl
  | x :: l => by rw [List.flatMap_cons, renL_app', hh, flat_ren g h hh l]
theorem flat_closed (h : Nat → List AV) (hh : ∀ j, AV.closedL (h j) = true) : ∀ l : List Nat, AV.closedL (l.flatMap h) = true
  | [] => rfl
  | x :: l => by rw [List.flatMap_cons, closedL_app', hh, flat_closed h hh l]; rfl
theorem flat_succ (h : Nat → List AV) (n : Nat) : (List.range (n + 1)).flatMap h = (List.range n).flatMap h ++ h n := by
  rw [List.range_succ, List.flatMap_append]; simp
theorem flat_slice (h : Nat → List AV) (s : Nat) (hh : ∀ j, (h j).length = s) : ∀ (n i : Nat), i < n → (((List.range n).flatMap h).drop (0 + i * s)).take s = h i
  | 0, i, hi => by omega
  | n + 1, i, hi => by
    rw [flat_succ]
    have e := flat_len h s hh n
    by_cases hn : i = n
    · subst hn
      rw [Nat.zero_add, ← e, List.drop_left, ← hh i, List.take_length]
    · have hin : i < n := by omega
      have : i * s + s ≤ n * s := by rw [← Nat.succ_mul]; exact Nat.mul_le_mul_right s hin
      rw [List.drop_append_of_le_length (by omega), List.take_append_of_le_length (by rw [List.length_drop]; omega)]
      exact flat_slice h s hh n i hin
@[simp] theorem leafs_len (k : Int) (w : Nat → Int) (n : Nat) : (leafs k w n).length = n * 6 := flat_len _ 6 (fun _ => rfl) n
@[simp] theorem texts_len (k : Int) (w : Nat → ByteArray) (n : Nat) : (texts k w n).length = n * 6 := flat_len _ 6 (fun _ => rfl) n
@[simp] theorem leafs_ren (g : Nat → Option Nat) (k : Int) (w : Nat → Int) (n : Nat) : AV.renL g (leafs k w n) = leafs k w n := flat_ren g _ (fun _ => rfl) _
@[simp] theorem texts_ren (g : Nat → Option Nat) (k : Int) (w : Nat → ByteArray) (n : Nat) : AV.renL g (texts k w n) = texts k w n := flat_ren g _ (fun _ => rfl) _
@[simp] theorem leafs_closed (k : Int) (w : Nat → Int) (n : Nat) : AV.closedL (leafs k w n) = true := flat_closed _ (fun _ => rfl) _
@[simp] theorem texts_closed (k : Int) (w : Nat → ByteArray) (n : Nat) : AV.closedL (texts k w n) = true := flat_closed _ (fun _ => rfl) _
theorem texts_succ (k : Int) (w : Nat → ByteArray) (i : Nat) : texts k w i ++ [.lit (.int .i64 k), .lit (.int .u64 0), .lit (.string (w i)), .lit (.slice none 0 0), .lit (.int .i64 0), .lit (.slice none 0 0)] = texts k w (i + 1) := (flat_succ _ i).symm
theorem texts_take (k : Int) (w : Nat → ByteArray) (i : Nat) : ((texts k w i).drop 0).take (i * 6) = texts k w i := by rw [List.drop_zero]; exact List.take_of_length_le (by simp)
theorem texts_slice (k : Int) (w : Nat → ByteArray) (n j : Nat) (h : j < n) : ((texts k w n).drop (0 + j * 6)).take 6 = [.lit (.int .i64 k), .lit (.int .u64 0), .lit (.string (w j)), .lit (.slice none 0 0), .lit (.int .i64 0), .lit (.slice none 0 0)] := flat_slice _ 6 (fun _ => rfl) n j h
end Fill
def Fill.floats (f : Nat → Nat) (n i : Nat) : List AV := (List.range n).map fun j => .lit (.float .f64 (if j < i then f j else 0))
namespace Fill
@[simp] theorem floats_len (f : Nat → Nat) (n i : Nat) : (floats f n i).length = n := by simp [floats]
@[simp] theorem floats_ren (g : Nat → Option Nat) (f : Nat → Nat) (n i : Nat) : AV.renL g (floats f n i) = floats f n i := renL_lits g (fun j => .float .f64 (if j < i then f j else 0)) _
@[simp] theorem floats_closed (f : Nat → Nat) (n i : Nat) : AV.closedL (floats f n i) = true := closedL_lits (fun j => .float .f64 (if j < i then f j else 0)) _
end Fill
/-! ### Bytes and strings -/
def Fill.bins (d : Nat → List UInt8) (n i : Nat) : List AV := (List.range n).map fun j => if j < i then .bts (d j) else .lit (.slice none 0 0)
def Fill.strs (s : Nat → ByteArray) (n i : Nat) : List AV := (List.range n).map fun j => .lit (.string (if j < i then s j else .empty))
namespace Fill
@[simp] theorem bins_len (d : Nat → List UInt8) (n i : Nat) : (bins d n i).length = n := by simp [bins]
@[simp] theorem strs_len (d : Nat → ByteArray) (n i : Nat) : (strs d n i).length = n := by simp [strs]
theorem renL_fix (g : Nat → Option Nat) (h : Nat → AV) (hh : ∀ j, (h j).ren g = h j) : ∀ l : List Nat, AV.renL g (l.map h) = l.map h
  | [] => rfl
  | x :: l => by simp only [List.map_cons, AV.renL, hh, renL_fix g h hh l]
theorem frzL_fix (k : Nat) (r : Row) (h : Nat → AV) (hh : ∀ j, (h j).frz k r = h j) : ∀ l : List Nat, AV.frzL k r (l.map h) = l.map h
  | [] => rfl
  | x :: l => by simp only [List.map_cons, AV.frzL, hh, frzL_fix k r h hh l]
theorem closedL_fix (h : Nat → AV) (hh : ∀ j, (h j).closed = true) : ∀ l : List Nat, AV.closedL (l.map h) = true
  | [] => rfl
  | x :: l => by simp only [List.map_cons, AV.closedL, hh, closedL_fix h hh l, Bool.and_self]
@[simp] theorem bins_ren (g : Nat → Option Nat) (d : Nat → List UInt8) (n i : Nat) : AV.renL g (bins d n i) = bins d n i := renL_fix g _ (fun j => by split <;> rfl) _
@[simp] theorem bins_closed (d : Nat → List UInt8) (n i : Nat) : AV.closedL (bins d n i) = true := closedL_fix _ (fun j => by split <;> rfl) _
@[simp] theorem bins_frz (k : Nat) (r : Row) (d : Nat → List UInt8) (n i : Nat) : AV.frzL k r (bins d n i) = bins d n i := frzL_fix k r _ (fun j => by split <;> rfl) _
@[simp] theorem strs_ren (g : Nat → Option Nat) (d : Nat → ByteArray) (n i : Nat) : AV.renL g (strs d n i) = strs d n i := renL_fix g _ (fun j => rfl) _
@[simp] theorem strs_closed (d : Nat → ByteArray) (n i : Nat) : AV.closedL (strs d n i) = true := closedL_fix _ (fun j => rfl) _
theorem bins_zero (d : Nat → List UInt8) (n : Nat) : repL [.lit (.slice none 0 0)] n = bins d n 0 := by
  rw [rep_map]; simp [bins]
theorem bins_set (d : Nat → List UInt8) (n i : Nat) : setL (bins d n i) i [.bts (d i)] = bins d n (i + 1) := by
  unfold bins
  refine set_map _ _ n i _ (by simp) fun j hj => ?_
  by_cases h : j < i
  · simp [h, show j < i + 1 by omega]
  · simp [h, show ¬ j < i + 1 by omega]
theorem renL_set1 (f : Nat → Option Nat) (cs : List AV) (o : Nat) (v : AV) : AV.renL f (setL cs o [v]) = setL (AV.renL f cs) o [v.ren f] := by
  show AV.renL f (cs.set o v) = (AV.renL f cs).set o (v.ren f)
  rw [AV.renL_map, AV.renL_map, List.map_set]
theorem frzL_map (k : Nat) (r : Row) : ∀ l : List AV, AV.frzL k r l = l.map (AV.frz k r)
  | [] => rfl
  | x :: l => by rw [AV.frzL, frzL_map k r l]; rfl
theorem frzL_set1 (k : Nat) (r : Row) (cs : List AV) (o : Nat) (v : AV) : AV.frzL k r (setL cs o [v]) = setL (AV.frzL k r cs) o [v.frz k r] := by
  show AV.frzL k r (cs.set o v) = (AV.frzL k r cs).set o (v.frz k r)
  rw [frzL_map, frzL_map, List.map_set]
theorem strs_succ (s : Nat → ByteArray) (i : Nat) : strs s i i ++ [.lit (.string (s i))] = strs s (i + 1) (i + 1) := by
  unfold strs
  rw [List.range_succ, List.map_append]
  congr 1
  · apply List.map_congr_left; intro j hj; rw [List.mem_range] at hj; simp [hj, show j < i + 1 by omega]
  · simp
theorem strs_take (s : Nat → ByteArray) (i : Nat) : ((strs s i i).drop 0).take (i * 1) = strs s i i := by rw [List.drop_zero, Nat.mul_one]; exact List.take_of_length_le (by simp)
theorem strs_slice (s : Nat → ByteArray) (n j : Nat) (h : j < n) : ((strs s n n).drop (0 + j * 1)).take 1 = [.lit (.string (s j))] := by
  unfold strs; rw [slice1 _ n j h]; simp [h]
theorem bins_slice (d : Nat → List UInt8) (n j : Nat) (h : j < n) : ((bins d n n).drop (0 + j * 1)).take 1 = [.bts (d j)] := by
  unfold bins; rw [slice1 _ n j h]; simp [h]
end Fill
