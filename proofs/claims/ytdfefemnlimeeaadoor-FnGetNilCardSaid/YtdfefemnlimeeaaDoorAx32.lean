/-
  An abstract machine for Go functions (part 32): data that came in, opened field by field: numbers, texts, bytes, slices of whatever opens, structures.
-/
import Derived.Test.YtdfefemnlimeeaaDoorAx31
import Derived.ChangeArms
import Derived.DataReads
import Derived.DataElems
import Derived.RowKit
set_option linter.unusedVariables false
set_option linter.unusedSimpArgs false
namespace Go.Ax
open Go.RowKit

/-- Cells, one by one. -/
def DRs (O : Nat → Prop) (w : World) (as : List AV) (vs : List Value) : Prop := as.length = vs.length ∧ ∀ (j : Nat) a v, as[j]? = some a → vs[j]? = some v → DR O w a v

theorem DR_lit {O : Nat → Prop} {w : World} {x v : Value} (h : DR O w (.lit x) v) : v = x := by cases h; rfl

theorem DRs.nil {O : Nat → Prop} {w : World} : DRs O w [] [] := ⟨rfl, fun j a v h => by simp at h⟩
theorem DRs.one {O : Nat → Prop} {w : World} {a : AV} {v : Value} (h : DR O w a v) : DRs O w [a] [v] := ⟨rfl, fun j x y hx hy => by
  cases j with
  | zero => simp at hx hy; subst hx; subst hy; exact h
  | succ j => simp at hx⟩
theorem DRs.get {O : Nat → Prop} {w : World} {a : AV} {v : Value} (h : DRs O w [a] [v]) : DR O w a v := h.2 0 a v rfl rfl
theorem DRs.append {O : Nat → Prop} {w : World} {as bs : List AV} {vs us : List Value} (h1 : DRs O w as vs) (h2 : DRs O w bs us) : DRs O w (as ++ bs) (vs ++ us) := by
  refine ⟨by simp [h1.1, h2.1], fun j a x ha hx => ?_⟩
  by_cases hj : j < as.length
  · rw [List.getElem?_append_left hj] at ha
    rw [List.getElem?_append_left (by rw [← h1.1]; exact hj)] at hx
    exact h1.2 j a x ha hx
  · rw [List.getElem?_append_right (by omega)] at ha
    rw [List.getElem?_append_right (by rw [← h1.1]; omega), ← h1.1] at hx
    exact h2.2 _ a x ha hx

section
variable {H : Type} {enc : TypeId × Value → H} {P : Program} {w : World} {base : Nat} {spare : Nat → Bool} {held : Bool}

abbrev Oin (w : World) : Nat → Prop := fun b => b < w.heap.size

theorem in_int {t : TypeId} {k : IntKind} {fuel : Nat} {cs : List Value} {x : DataW H × List MemPlace} (ht : P.underlying t = some (.int k)) (h : DataW.trod enc P w base spare held fuel t cs = some x) :
    ∃ n : Int, DRs (Oin w) w [.lit (.int k n)] cs ∧ k.min ≤ n ∧ n ≤ k.max := by
  obtain ⟨n, rfl, -, hw⟩ := DataW.trod_int ht h
  simp [Lit.wf] at hw
  exact ⟨n, .one (.lit _), hw.1, hw.2⟩

theorem in_bool {t : TypeId} {fuel : Nat} {cs : List Value} {x : DataW H × List MemPlace} (ht : P.underlying t = some .bool) (h : DataW.trod enc P w base spare held fuel t cs = some x) :
    ∃ b : Bool, DRs (Oin w) w [.lit (.bool b)] cs := by
  obtain ⟨n, rfl, -⟩ := DataW.trod_bool ht h
  exact ⟨n, .one (.lit _)⟩

theorem in_string {t : TypeId} {fuel : Nat} {cs : List Value} {x : DataW H × List MemPlace} (ht : P.underlying t = some .string) (h : DataW.trod enc P w base spare held fuel t cs = some x) :
    ∃ s : ByteArray, DRs (Oin w) w [.lit (.string s)] cs ∧ s.size ≤ maxLen := by
  obtain ⟨s, rfl, -, hs⟩ := DataW.trod_string ht h
  exact ⟨s, .one (.lit _), hs⟩

/-- A slice of whatever opens. -/
theorem in_slice {T : Type} (dflt : T) (C : T → List AV) (Q : T → Prop) {t e : TypeId} {fuel : Nat} {cs : List Value} {x : DataW H × List MemPlace} (ht : P.underlying t = some (.slice e)) (hC : ∀ a, (C a).length = P.cellsOf e)
    (hpos : 0 < P.cellsOf e)
    (hel : ∀ n cs x, n < fuel → DataW.trod enc P w base spare held n e cs = some x → ∃ a : T, DRs (Oin w) w (C a) cs ∧ Q a)
    (h : DataW.trod enc P w base spare held fuel t cs = some x) :
    ∃ (n : Nat) (f : Nat → T), DRs (Oin w) w [.ro (P.cellsOf e) n (fun i => C (f i))] cs ∧ n ≤ maxLen ∧ ∀ i, i < n → Q (f i) := by
  rcases DataW.trod_slice ht h with ⟨rfl, _⟩ | ⟨a, len, cap, elems, rest, n, hn, rfl, _, hb, hl, hm, hlen, hel', hsp, hns⟩
  · exact ⟨0, fun _ => dflt, .one .ronil, Nat.zero_le _, fun i hi => absurd hi (by omega)⟩
  · have each : ∀ i, i < len → ∃ a' : T, ∃ cs, w.cells? base (a.add (i * P.cellsOf e)) (P.cellsOf e) = some cs ∧ DRs (Oin w) w (C a') cs ∧ Q a' := fun i hi => by
      have hy := hel' i hi
      have hi' : i < elems.length := by omega
      rw [List.getElem?_eq_getElem hi', Option.bind_eq_some_iff] at hy
      obtain ⟨cs', hcs, hy'⟩ := hy
      obtain ⟨a', h1, h2⟩ := hel n cs' _ (by omega) hy'
      exact ⟨a', cs', hcs, h1, h2⟩
    let f : Nat → T := fun i => if hi : i < len then Classical.choose (each i hi) else dflt
    have hf : ∀ i (hi : i < len), ∃ cs, w.cells? base (a.add (i * P.cellsOf e)) (P.cellsOf e) = some cs ∧ DRs (Oin w) w (C (f i)) cs ∧ Q (f i) := fun i hi => by
      simp only [f, hi, dite_true]
      exact Classical.choose_spec (each i hi)
    let val : Nat → Nat → Value := fun i j => ((w.cells? base (a.add (i * P.cellsOf e)) (P.cellsOf e)).getD []).getD j undef
    have hcell : ∀ i j c, i < len → (C (f i))[j]? = some c → w.cell? (a.add (i * P.cellsOf e + j)) = some (val i j) ∧ DR (Oin w) w c (val i j) := fun i j c hi hc => by
      obtain ⟨cs, h1, h2, -⟩ := hf i hi
      obtain ⟨hj, -⟩ := List.getElem?_eq_some_iff.1 hc
      have hjc : j < cs.length := by rw [← h2.1]; exact hj
      have hg : cs[j]? = some cs[j] := List.getElem?_eq_getElem hjc
      have hv : val i j = cs[j] := by simp only [val, h1, Option.getD_some, List.getD_eq_getElem?_getD, hg]
      rw [hv]
      refine ⟨?_, h2.2 j c _ hc hg⟩
      have := (World.cells?_some h1).2.2 j (by rw [← hC (f i)]; exact hj)
      rw [Addr.add_add] at this
      rw [this, hg]
    refine ⟨len, f, .one (.ro val (fun hp => ?_) (fun hp => ?_) hl (Nat.le_trans hm (by decide)) (fun i hi => hC (f i)) (fun i j c hi hc => (hcell i j c hi hc).1) (fun i j c hi hc => (hcell i j c hi hc).2)), by omega, fun i hi => ?_⟩
    · have hz : 0 < (C (f 0)).length := by rw [hC]; exact hpos
      have := (hcell 0 0 _ hp (List.getElem?_eq_getElem hz)).1
      rw [show a.add (0 * P.cellsOf e + 0) = a by simp [Addr.add]] at this
      exact World.cell?_spot this
    · have hz : 0 < (C (f 0)).length := by rw [hC]; exact hpos
      have := (hcell 0 0 _ hp (List.getElem?_eq_getElem hz)).1
      rw [show a.add (0 * P.cellsOf e + 0) = a by simp [Addr.add]] at this
      simp only [World.cell?] at this
      apply Classical.byContradiction
      intro hn
      have : w.heap[a.block]? = none := Array.getElem?_eq_none (by simp only [Oin] at hn; omega)
      simp_all
    · obtain ⟨cs, -, -, h3⟩ := hf i hi
      exact h3

/-- A slice of bytes. -/
theorem in_bytes {t e : TypeId} {fuel : Nat} {cs : List Value} {x : DataW H × List MemPlace} (ht : P.underlying t = some (.slice e)) (he : P.underlying e = some (.int .u8)) (hc : P.cellsOf e = 1)
    (h : DataW.trod enc P w base spare held fuel t cs = some x) : ∃ bs : List UInt8, DRs (Oin w) w [.bts bs] cs ∧ bs.length ≤ maxLen := by
  obtain ⟨n, f, h1, h2, h3⟩ := in_slice (0 : UInt8) (fun b => [u8 b]) (fun _ => True) ht (fun a => by rw [hc]; rfl) (by omega) (fun n cs x hn hx => by
    obtain ⟨z, hz, h0, h1⟩ := in_int he hx
    refine ⟨UInt8.ofNat z.toNat, ?_, trivial⟩
    have : u8 (UInt8.ofNat z.toNat) = .lit (.int .u8 z) := by
      have h255 : IntKind.max .u8 = 255 := by decide
      have h00 : IntKind.min .u8 = 0 := by decide
      rw [h255] at h1; rw [h00] at h0
      unfold u8
      rw [UInt8.toNat_ofNat']
      congr 2
      omega
    rw [this]
    exact hz) h
  refine ⟨(List.range n).map f, ?_, by simpa using h2⟩
  have hl : cs.length = 1 := by simpa using h1.1.symm
  obtain ⟨v, rfl⟩ := List.length_eq_one_iff.1 hl
  have hd := h1.get
  refine .one ?_
  have hn : ((List.range n).map f).length = n := by simp
  cases hd with
  | @ro _ _ _ a cap val g1 g2 g3 g4 g5 g6 g7 =>
    have := DR.bts (O := Oin w) (w := w) (bs := (List.range n).map f) (a := a) (cap := cap) (by rw [hn]; exact g1) (by rw [hn]; exact g2) (by rw [hn]; exact g3) g4 (fun i b hb => by
      obtain ⟨hi, hb'⟩ := List.getElem?_eq_some_iff.1 hb
      rw [hn] at hi
      simp at hb'
      subst hb'
      have q1 := g6 i 0 (u8 (f i)) hi rfl
      have q2 := g7 i 0 (u8 (f i)) hi rfl
      rw [hc, Nat.mul_one, Nat.add_zero] at q1
      rw [q1, DR_lit q2])
    rw [hn] at this
    exact this
  | ronil => exact .btsnil

theorem in_field {t : TypeId} {fs : Array Field} {fuel : Nat} {cs : List Value} {x : DataW H × List MemPlace} (ht : P.underlying t = some (.struct fs)) (h : DataW.trod enc P w base spare held fuel t cs = some x) :
    ∃ n, fuel = n + 1 ∧ cs.length = P.cellsOf t ∧ ∀ (i : Nat) (f : Field), fs[i]? = some f → ∃ y, DataW.trod enc P w base spare held n f.type ((cs.drop f.offset).take (P.cellsOf f.type)) = some y := by
  obtain ⟨xs, n, rfl, _, hl, hxs, hf⟩ := DataW.trod_struct ht h
  refine ⟨n, rfl, hl, fun i f hi => ?_⟩
  have := hf i f hi
  have hi' : i < xs.length := by rw [hxs]; exact (Array.getElem?_eq_some_iff.1 hi).1
  rw [List.getElem?_eq_getElem hi'] at this
  exact ⟨_, this⟩

end
end Go.Ax
