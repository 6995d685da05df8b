/-
  The package-level variables of the AMQP readers' laws, as the listed data lay them; utf8.ValidString by the shelf's contract; values of AMQP that came in.
-/
import Derived.Test.YtbdfpnhcincimaaDoorVaN
import Derived.Test.YtbdfpnhcincimaaDoorGr
import Derived.Test.YtbdfpnhcincimaaDoorRows
import Derived.Ground.NamesProg
import Derived.Shelf.Unicode.ValidAny
import Derived.Lib.LaidU8T
import Derived.PinnedBridge
import Derived.ChangeArms
set_option linter.unusedVariables false
set_option linter.unusedSimpArgs false
set_option maxRecDepth 100000
namespace Go.Proofs
open Go.Shelf
def Tryd.laysValid_ren : Go.Shelf.Ren := ⟨fun | 196 => 122 | 259 => 128 | n => n, fun | 9 => 9 | 4 => 4 | 3 => 3 | 5 => 5 | 12 => 12 | 119 => 187 | 0 => 0 | 46 => 139 | 139 => 190 | 138 => 189 | 53 => 22 | n => n, fun | 3 => 3 | 4 => 4 | n => n⟩
theorem Tryd.laysValid : Go.Proofs.Lays.n196 Tryd.prog Tryd.laysValid_ren := {
  mixed := by kernel_rfl
  f196 := Tryd.func122.trans (congrArg some (by kernel_rfl))
  f259 := Tryd.func128.trans (congrArg some (by kernel_rfl))
  t0 := Tryd.underlying0
  a0 := Tryd.isAgg0
  z0 := Tryd.sizeOf0
  v0 := Tryd.zeroValue0
  t3 := Tryd.underlying3
  a3 := Tryd.isAgg3
  z3 := Tryd.sizeOf3
  v3 := Tryd.zeroValue3
  t4 := Tryd.underlying4
  a4 := Tryd.isAgg4
  z4 := Tryd.sizeOf4
  v4 := Tryd.zeroValue4
  t5 := Tryd.underlying5
  a5 := Tryd.isAgg5
  z5 := Tryd.sizeOf5
  v5 := Tryd.zeroValue5
  t9 := Tryd.underlying9
  a9 := Tryd.isAgg9
  z9 := Tryd.sizeOf9
  v9 := Tryd.zeroValue9
  t12 := Tryd.underlying12
  a12 := Tryd.isAgg12
  z12 := Tryd.sizeOf12
  v12 := Tryd.zeroValue12
  t46 := Tryd.underlying139
  a46 := Tryd.isAgg139
  z46 := Tryd.sizeOf139
  v46 := Tryd.zeroValue139
  t53 := Tryd.underlying22
  a53 := Tryd.isAgg22
  z53 := Tryd.sizeOf22
  v53 := Tryd.zeroValue22
  t119 := Tryd.underlying187
  a119 := Tryd.isAgg187
  z119 := Tryd.sizeOf187
  t138 := Tryd.underlying189
  a138 := Tryd.isAgg189
  z138 := Tryd.sizeOf189
  v138 := Tryd.zeroValue189
  t139 := Tryd.underlying190
  a139 := Tryd.isAgg190
  z139 := Tryd.sizeOf190
  v139 := Tryd.zeroValue190
  g3 := by kernel_rfl
  g4 := by kernel_rfl }
end Go.Proofs
namespace Go.Ax
open Go.Proofs Go.Shelf Go.RowKit

theorem pair_even {α : Type} (f g : Nat → α) (n : Nat) : ∀ i, i < n → ((List.range n).flatMap fun i => [f i, g i])[2 * i]? = some (f i) ∧ ((List.range n).flatMap fun i => [f i, g i])[2 * i + 1]? = some (g i) := by
  induction n with
  | zero => intro i hi; omega
  | succ n ih =>
    intro i hi
    have hl : ((List.range n).flatMap fun i => [f i, g i]).length = 2 * n := by
      clear ih hi
      induction n with
      | zero => rfl
      | succ n ih => rw [List.range_succ, List.flatMap_append, List.length_append, ih]; simp; omega
    rw [List.range_succ, List.flatMap_append]
    by_cases h : i < n
    · rw [List.getElem?_append_left (by omega), List.getElem?_append_left (by omega)]
      exact ih i h
    · obtain rfl : i = n := by omega
      rw [List.getElem?_append_right (by omega), List.getElem?_append_right (by omega), hl]
      simp

theorem pair_len {α : Type} (f g : Nat → α) (n : Nat) : ((List.range n).flatMap fun i => [f i, g i]).length = 2 * n := by
  induction n with
  | zero => rfl
  | succ n ih => rw [List.range_succ, List.flatMap_append, List.length_append, ih]; simp; omega

theorem utf8_of_globR {u0 : Nat} {O : Nat → Prop} {w : World} (h : GlobAt (gR u0) O w) : Lib.Utf8Tabs 3 4 w := by
  refine ⟨fun c hc => ?_, fun i hi => ?_⟩
  · obtain ⟨-, h2⟩ := h 3 _ rfl
    obtain ⟨v, hv, hd⟩ := h2 c (.lit (.int .u8 (Lib.firstT c))) (by simp [List.getElem?_map, List.getElem?_range hc])
    cases hd
    exact hv
  · obtain ⟨-, h2⟩ := h 4 _ rfl
    obtain ⟨e1, e2⟩ := pair_even (fun i => AV.lit (.int .u8 (Lib.accLo i))) (fun i => AV.lit (.int .u8 (Lib.accHi i))) 16 i hi
    obtain ⟨v, hv, hd⟩ := h2 (2 * i) _ e1
    obtain ⟨v', hv', hd'⟩ := h2 (2 * i + 1) _ e2
    cases hd
    cases hd'
    exact ⟨hv, hv'⟩

theorem validR (u0 : Nat) : ValidAt (gR u0) := fun s hs => ⟨Lib.validD s.data.toList,
  ACalls_of_Calls (vals := [.string s]) Tryd.func122 (by kernel_rfl) (by kernel_rfl) (fun O w h => Any.utf8_ValidString Tryd.laysValid s w (by omega) (utf8_of_globR h))⟩

theorem cell_lt {w : World} {g c : Nat} {v : Value} (h : w.cell? ⟨g, c, none⟩ = some v) : g < w.heap.size := by
  unfold World.cell? at h
  by_cases hg : g < w.heap.size
  · exact hg
  · simp [Array.getElem?_eq_none (Nat.le_of_not_lt hg)] at h

theorem glob_of_R {w : World} {u0 : Nat} {v : Value} (h : Lib.Utf8Tabs 3 4 w) (hE : w.cell? ⟨2, 0, none⟩ = some (.iface u0 v)) : GlobAt (gR u0) (fun b => b < w.heap.size) w := by
  intro g cs hg
  match g with
  | 0 => cases hg
  | 1 => cases hg
  | 2 =>
    obtain rfl : _ = cs := Option.some.inj hg
    refine ⟨cell_lt hE, fun j c hj => ?_⟩
    cases j with
    | zero => simp at hj; subst hj; exact ⟨_, hE, .ifc (.dead _)⟩
    | succ j => simp at hj
  | 3 =>
    obtain rfl : _ = cs := Option.some.inj hg
    refine ⟨cell_lt (h.1 0 (by omega)), fun j c hc => ?_⟩
    obtain ⟨hj, hc⟩ := List.getElem?_eq_some_iff.1 hc
    simp at hj hc
    subst hc
    exact ⟨_, h.1 j hj, .lit _⟩
  | 4 =>
    obtain rfl : _ = cs := Option.some.inj hg
    refine ⟨cell_lt (h.2 0 (by omega)).1, fun j c hc => ?_⟩
    have hj := (List.getElem?_eq_some_iff.1 hc).1
    rw [pair_len] at hj
    obtain ⟨e1, e2⟩ := pair_even (fun i => AV.lit (.int .u8 (Lib.accLo i))) (fun i => AV.lit (.int .u8 (Lib.accHi i))) 16 (j / 2) (by omega)
    obtain ⟨k1, k2⟩ := h.2 (j / 2) (by omega)
    rcases Nat.mod_two_eq_zero_or_one j with hm | hm
    · have : j = 2 * (j / 2) := by omega
      rw [← this] at e1 k1
      obtain rfl := Option.some.inj (e1.symm.trans hc)
      exact ⟨_, k1, .lit _⟩
    · have : j = 2 * (j / 2) + 1 := by omega
      rw [← this] at e2 k2
      obtain rfl := Option.some.inj (e2.symm.trans hc)
      exact ⟨_, k2, .lit _⟩
  | g + 5 => cases hg

theorem iface_laid {w : World} {fuel : Nat} {t : TypeId} {cs : List Value} {name : String} {d : DataW Unit} {p : List MemPlace} (ht : ∃ m, Tryd.prog.underlying t = some (.interface m))
    (h : DataW.trod (fun _ => ()) Tryd.prog w 0 (fun _ => true) false fuel t cs = some (.iface name d, p)) : ∃ u v, cs = [.iface u v] := by
  obtain ⟨m, hm⟩ := ht
  cases fuel with
  | zero => simp [DataW.trod] at h
  | succ n =>
    unfold DataW.trod at h
    rw [hm] at h
    split at h <;> simp_all

/-- The three listed variables. -/
theorem glob_laid {w : World} (h : laidMet Tryd.prog YtbdfpnhcincimaaDoor.Rows.fnReadLongRow.laid w) : ∃ u0, GlobAt (gR u0) (fun b => b < w.heap.size) w := by
  have hT : Lib.Utf8Tabs 3 4 w :=
    utf8Tabs_of_readsT (U8Types.of196 Tryd.laysValid) ⟨by kernel_rfl, by kernel_rfl, by kernel_rfl, by kernel_rfl, by kernel_rfl, by kernel_rfl, by kernel_rfl⟩ (Pinned.utf8First_eq ▸ Lib.laidMet.reads h (.tail _ (.tail _ (.head _)))) (Lib.laidMet.reads h (.head _))
  obtain ⟨g, t, cs, fuel, p, h1, h2, h3, h4⟩ := Lib.laidMet.reads h (.tail _ (.head _))
  obtain rfl : g = 2 := Option.some.inj (h1.symm.trans (by kernel_rfl))
  obtain rfl : t = 86 := Option.some.inj (h2.symm.trans (by kernel_rfl))
  obtain ⟨u, v, hcs⟩ := iface_laid ⟨_, Tryd.underlying86⟩ h4
  refine ⟨u, glob_of_R (v := v) hT ?_⟩
  unfold World.var? at h3
  rw [h1] at h3
  simp only [Option.bind_some] at h3
  cases hh : w.heap[2]? with
  | none => rw [hh] at h3; cases h3
  | some o =>
    rw [hh] at h3
    cases o with
    | cells c ty fz =>
      simp at h3
      subst h3
      have e0 : w.cell? ⟨2, 0, none⟩ = c[0]? := by simp [World.cell?, hh]
      rw [e0, ← Array.getElem?_toList, hcs]
      rfl
    | _ => simp at h3

/-! ### What came in -/
theorem list6 {α : Type} {cs : List α} (h : cs.length = 6) : ∃ a b c d e f, cs = [a, b, c, d, e, f] := by
  match cs, h with
  | [a, b, c, d, e, f], _ => exact ⟨a, b, c, d, e, f, rfl⟩
theorem list9 {α : Type} {cs : List α} (h : cs.length = 9) : ∃ a b c d e f g i j, cs = [a, b, c, d, e, f, g, i, j] := by
  match cs, h with
  | [a, b, c, d, e, f, g, i, j], _ => exact ⟨a, b, c, d, e, f, g, i, j, rfl⟩

section
variable {H : Type} {enc : TypeId × Value → H} {w : World} {base : Nat} {spare : Nat → Bool} {held : Bool}

theorem cell1 : Tryd.prog.cellsOf 3 = 1 ∧ Tryd.prog.cellsOf 22 = 1 ∧ Tryd.prog.cellsOf 9 = 1 ∧ Tryd.prog.cellsOf 23 = 1 ∧ Tryd.prog.cellsOf 26 = 1 ∧ Tryd.prog.cellsOf 5 = 1 ∧ Tryd.prog.cellsOf 25 = 6 ∧ Tryd.prog.cellsOf 28 = 9 :=
  ⟨by kernel_rfl, by kernel_rfl, by kernel_rfl, by kernel_rfl, by kernel_rfl, by kernel_rfl, by kernel_rfl, by kernel_rfl⟩

theorem max_le : maxLen ≤ 9223372036854775807 := by decide

theorem in_value : ∀ (fuel : Nat) (cs : List Value) (x : DataW H × List MemPlace), DataW.trod enc Tryd.prog w base spare held fuel 25 cs = some x → ∃ p : ValT, DRs (Oin w) w (vcl p) cs ∧ p.wf := by
  intro fuel
  induction fuel using Nat.strongRecOn with
  | ind fuel ih =>
    intro cs x h
    obtain ⟨c3, c22, c9, c23, c26, c5, c25, c28⟩ := cell1
    obtain ⟨n, rfl, hl, hf⟩ := in_field Tryd.underlying25 h
    rw [c25] at hl
    obtain ⟨a0, a1, a2, a3, a4, a5, rfl⟩ := list6 hl
    obtain ⟨y0, h0⟩ : ∃ y, DataW.trod enc Tryd.prog w base spare held n 3 (([a0, a1, a2, a3, a4, a5].drop 0).take (Tryd.prog.cellsOf 3)) = some y := hf 0 _ rfl
    rw [c3] at h0
    obtain ⟨y1, h1⟩ : ∃ y, DataW.trod enc Tryd.prog w base spare held n 22 (([a0, a1, a2, a3, a4, a5].drop 1).take (Tryd.prog.cellsOf 22)) = some y := hf 1 _ rfl
    rw [c22] at h1
    obtain ⟨y2, h2⟩ : ∃ y, DataW.trod enc Tryd.prog w base spare held n 9 (([a0, a1, a2, a3, a4, a5].drop 2).take (Tryd.prog.cellsOf 9)) = some y := hf 2 _ rfl
    rw [c9] at h2
    obtain ⟨y3, h3⟩ : ∃ y, DataW.trod enc Tryd.prog w base spare held n 23 (([a0, a1, a2, a3, a4, a5].drop 3).take (Tryd.prog.cellsOf 23)) = some y := hf 3 _ rfl
    rw [c23] at h3
    obtain ⟨y4, h4⟩ : ∃ y, DataW.trod enc Tryd.prog w base spare held n 3 (([a0, a1, a2, a3, a4, a5].drop 4).take (Tryd.prog.cellsOf 3)) = some y := hf 4 _ rfl
    rw [c3] at h4
    obtain ⟨y5, h5⟩ : ∃ y, DataW.trod enc Tryd.prog w base spare held n 23 (([a0, a1, a2, a3, a4, a5].drop 5).take (Tryd.prog.cellsOf 23)) = some y := hf 5 _ rfl
    rw [c23] at h5
    obtain ⟨k, d0, -, -⟩ := in_int Tryd.underlying3 h0
    obtain ⟨u, d1, u0, u1⟩ := in_int Tryd.underlying22 h1
    obtain ⟨t, d2, ht⟩ := in_string Tryd.underlying9 h2
    obtain ⟨m, f, d3, hm, hw⟩ := in_slice ValT.nul vcl ValT.wf Tryd.underlying23 (fun a => by rw [c25]; rfl) (by rw [c25]; decide) (fun n' cs' x' hn hx => ih n' (by omega) cs' x' hx) h3
    obtain ⟨e, d4, -, -⟩ := in_int Tryd.underlying3 h4
    obtain ⟨m2, g, d5, hm2, hw2⟩ := in_slice ValT.nul vcl ValT.wf Tryd.underlying23 (fun a => by rw [c25]; rfl) (by rw [c25]; decide) (fun n' cs' x' hn hx => ih n' (by omega) cs' x' hx) h5
    rw [c25] at d3 d5
    refine ⟨.mk k u t m f e m2 g, ?_, ?_⟩
    · exact d0.append (d1.append (d2.append (d3.append (d4.append d5))))
    · have m0 : IntKind.min .u64 = 0 := by decide
      have m1 : IntKind.max .u64 = 18446744073709551615 := by decide
      have := max_le
      rw [m0] at u0; rw [m1] at u1
      exact ⟨u0, by omega, by omega, by omega, by omega, hw, hw2⟩

theorem in_handed {fuel : Nat} {vs : Array Value} {x : DataW H × List MemPlace} (h : DataW.trod enc Tryd.prog w base spare held fuel 28 (Value.agg vs).cells.toList = some x) :
    ∃ (p : ValT) (fs : Int) (bh : List UInt8) (ct : Int), p.wf ∧ ct < 9223372036854775808 ∧ DR (Oin w) w (hAV p fs bh ct) (.agg vs) := by
  obtain ⟨c3, c22, c9, c23, c26, c5, c25, c28⟩ := cell1
  obtain ⟨n, rfl, hl, hf⟩ := in_field Tryd.underlying28 h
  rw [c28] at hl
  have hcs : (Value.agg vs).cells.toList = vs.toList := rfl
  rw [hcs] at hl hf
  obtain ⟨a0, a1, a2, a3, a4, a5, a6, a7, a8, hv⟩ := list9 hl
  rw [hv] at hf
  obtain ⟨y0, h0⟩ : ∃ y, DataW.trod enc Tryd.prog w base spare held n 25 (([a0, a1, a2, a3, a4, a5, a6, a7, a8].drop 0).take (Tryd.prog.cellsOf 25)) = some y := hf 0 _ rfl
  rw [c25] at h0
  obtain ⟨y1, h1⟩ : ∃ y, DataW.trod enc Tryd.prog w base spare held n 22 (([a0, a1, a2, a3, a4, a5, a6, a7, a8].drop 6).take (Tryd.prog.cellsOf 22)) = some y := hf 1 _ rfl
  rw [c22] at h1
  obtain ⟨y3, h3⟩ : ∃ y, DataW.trod enc Tryd.prog w base spare held n 26 (([a0, a1, a2, a3, a4, a5, a6, a7, a8].drop 7).take (Tryd.prog.cellsOf 26)) = some y := hf 2 _ rfl
  rw [c26] at h3
  obtain ⟨y4, h4⟩ : ∃ y, DataW.trod enc Tryd.prog w base spare held n 3 (([a0, a1, a2, a3, a4, a5, a6, a7, a8].drop 8).take (Tryd.prog.cellsOf 3)) = some y := hf 3 _ rfl
  rw [c3] at h4
  obtain ⟨p, d0, hw⟩ := in_value _ _ _ h0
  obtain ⟨fs, d1, -, -⟩ := in_int Tryd.underlying22 h1
  obtain ⟨bh, d3, -⟩ := in_bytes Tryd.underlying26 Tryd.underlying5 c5 h3
  obtain ⟨ct, d4, -, hct⟩ := in_int Tryd.underlying3 h4
  have m1 : IntKind.max .i64 = 9223372036854775807 := by decide
  rw [m1] at hct
  refine ⟨p, fs, bh, ct, hw, by omega, ?_⟩
  have D := d0.append (d1.append (d3.append d4))
  refine .agg (by have := congrArg List.length hv; simp at this; simp [hcells, this]) fun j c v hc hvj => ?_
  refine D.2 j c v hc ?_
  rw [← Array.getElem?_toList, hv] at hvj
  exact hvj
end
end Go.Ax
