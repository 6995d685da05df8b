/-
  The card of laws.FnWriteArraySymbol holds: for every list of texts the function returns true and leaves what was there as it was, where the two listed tables of unicode/utf8 read as the program's text lays them (the card ties that). No condition beyond the card's own.
-/
import Derived.Test.YtemlccbnicdfgaaDoorRows
import Derived.Test.YtemlccbnicdfgaaDoorCards
import Derived.Test.YtemlccbnicdfgaaDoorTie
import Derived.WalkKit
import Derived.ProofKit
import Derived.OpenShut
import Derived.ChangeOld
import Derived.Below
import Derived.SliceStrings
import Derived.LaidMore
import Derived.Lay
import Derived.SevenTiedAt
import Derived.Stop.Joined
import Derived.Test.YtemlccbnicdfgaaDoorUsF
namespace Go.Proofs.YtemlccbnicdfgaaDoor.fnWriteArraySymbol
open Go.ChangeShapes Go.WideShapes Go.ChangeAt Go.RowKit
set_option linter.unusedVariables false

theorem own : ownKnob Tryd.prog.godebug = none := by kernel_rfl

/-- Which types the slice's reading looks at. -/
theorem laidOut : laidOutB Tryd.prog = true := by kernel_rfl

/-- What a slice of texts that came in is: nil, or it leads to a row of texts. -/
def IsTexts (w : World) (a : Option Addr) (len cap : Nat) (ss : List ByteArray) : Prop :=
  (a = none ∧ len = 0 ∧ cap = 0 ∧ ss = []) ∨
  ∃ x, a = some x ∧ len ≤ cap ∧ cap ≤ maxLen ∧ ss.length = cap ∧ ∀ i, i < ss.length → w.cell? (x.add i) = some (.string (ss.getD i ByteArray.empty))

open Go.Ax in
theorem texts_in {w : World} {a : Option Addr} {len cap : Nat} {zs : List ByteArray} (h : IsTexts w a len cap zs) :
    ∃ l : List ByteArray, DR (fun b => b < w.heap.size) w (roS l) (.slice a len cap) := by
  rcases h with ⟨rfl, rfl, rfl, rfl⟩ | ⟨x, rfl, hl, hm, hz, hc⟩
  · exact ⟨[], .ronil⟩
  · have hlen : (zs.take len).length = len := by simp; omega
    refine ⟨zs.take len, ?_⟩
    have hcell : ∀ i, i < len → w.cell? (x.add i) = some (.string (zs.getD i .empty)) := fun i hi => hc i (by omega)
    have hg : ∀ i, i < len → (zs.take len).getD i .empty = zs.getD i .empty := fun i hi => by simp [List.getD_eq_getElem?_getD, hi]
    rw [roS, hlen]
    refine .ro (fun i j => .string (zs.getD i .empty)) (fun hp => ?_) (fun hp => ?_) hl (Nat.le_trans hm (by decide)) (fun i hi => rfl) (fun i j c hi hj => ?_) (fun i j c hi hj => ?_)
    · have := hcell 0 hp
      rw [show x.add 0 = x by simp [Addr.add]] at this
      exact World.cell?_spot this
    · have := hcell 0 hp
      rw [show x.add 0 = x by simp [Addr.add]] at this
      simp only [World.cell?] at this
      apply Classical.byContradiction
      intro hn
      have : w.heap[x.block]? = none := Array.getElem?_eq_none (by omega)
      simp_all
    · cases j with
      | zero => rw [Nat.mul_one, Nat.add_zero]; exact hcell i hi
      | succ j => simp at hj
    · cases j with
      | zero => simp at hj; subst hj; rw [← List.getD_eq_getElem?_getD, hg i hi]; exact .lit _
      | succ j => simp at hj

/-! ### STEP 1: THE WALK -/
theorem walk (a1 : Option Addr) (len1 cap1 : Nat) (z1 : List ByteArray) (w : World) (w1 : IsTexts w a1 len1 cap1 z1) :
    Calls Tryd.prog 4 #[.slice a1 len1 cap1] w fun e w' => e = .returned (.bool true) ∧ Below w.heap.size w w' := by
  obtain ⟨l, hd⟩ := texts_in w1
  refine Go.Ax.walk_of_ACalls (Go.Ax.fnWriteArraySymbol l) rfl fun j a v ha hv => ?_
  match j with
  | 0 => simp at ha hv; subst ha; subst hv; exact hd
  | j + 1 => simp at ha

/-! ### THE ROW's STEP -/
set_option maxRecDepth 100000 in
theorem lifted (os : Os) (started : os.Started) (H : Type) (enc : TypeId × Value → H) :
    ReturnsInHanded {} Tryd.checked os 4 .any (fun w args => (Rows.fnWriteArraySymbolSpec.pre enc Tryd.prog Tryd.f4 Rows.fnWriteArraySymbolRow.domain false w args ∧ laidMetH Tryd.prog Rows.fnWriteArraySymbolRow.laid w) ∧ sizedMet enc Tryd.prog Tryd.f4 (OpenSpec.ofChange Rows.fnWriteArraySymbolSpec) false w args)
      (Rows.fnWriteArraySymbolSpec.post enc Tryd.prog Tryd.f4 false true false false) := by
  refine returnsInHanded_of_change_and (C := Tryd.checked) (X := fun w _ => laidMetH Tryd.prog Rows.fnWriteArraySymbolRow.laid w) (fun _ _ _ hh h => h.of_heap hh) own started (by kernel_rfl) Tryd.func4
    (ChangeSpec.witness_shaped (enc := enc) (C := Tryd.checked) (os := os) (X := fun w _ => laidMetH Tryd.prog Rows.fnWriteArraySymbolRow.laid w) false (World.laidAll Tryd.prog os Rows.fnWriteArraySymbolRow.laid) #[.slice none 0 0] 8 (World.laidAll_os _ _ _)
      (World.shaped_of_ZipB (by kernel_rfl) (by kernel_rfl)) (by kernel_rfl) (by kernel_rfl) (by kernel_rfl)
      (by rw [MakeChecks.laidMetH_plain _ _ _ (by kernel_rfl)]; exact laidMet_laidAll _ (by kernel_rfl) (by kernel_rfl))) ?_
  intro W base args ds gs before hval0 hW hcnd _ hL _
  have hval : ∀ (j : Nat) t v, Tryd.f4.params[j]? = some t → args[j]? = some v → Value.okWide Tryd.prog W .any base t v := hval0
  have hW' := hW
  obtain ⟨p, q, hA0, hV, rfl, hfz, hnd⟩ := hW
  have hA : DataW.TrodAll enc Tryd.prog W 0 (fun _ => true) true Tryd.f4.params.toList args.toList ds p := hA0
  rw [Tryd.params4] at hA hval
  obtain ⟨v0, vs0, d0, ds0, p0, q0, hargs, rfl, rfl, h0, r0⟩ := trodAll_cons hA
  obtain ⟨rfl, rfl, rfl⟩ := trodAll_nil r0
  obtain rfl : args = #[v0] := by cases args; simp_all
  obtain ⟨rfl, rfl⟩ := trodVars_none hV
  obtain ⟨a1, len1, cap1, rfl⟩ := okWide_slice Tryd.underlying32 (hval 0 32 v0 rfl rfl)
  have k1 := h0
  have lt1 : ∀ x ∈ p0, x.block < W.heap.size := by obtain ⟨m, hm⟩ := k1; exact DataW.trod_lt m _ _ _ hm
  obtain ⟨z1, w1⟩ : ∃ zs, IsTexts W a1 len1 cap1 zs := by
    obtain ⟨fuel, hf⟩ := h0
    rcases open_strings Tryd.underlying32 Tryd.underlying9 (by kernel_rfl) hf with ⟨hcs, _⟩ | ⟨x, l, c, zs, hcs, _, hl, hm, hz, _, hcell, _⟩
    · simp [Value.cells] at hcs
      obtain ⟨rfl, rfl, rfl⟩ := hcs
      exact ⟨[], .inl ⟨rfl, rfl, rfl, rfl⟩⟩
    · simp [Value.cells] at hcs
      obtain ⟨rfl, rfl, rfl⟩ := hcs
      exact ⟨zs, .inr ⟨_, rfl, hl, hm, by simpa using hz, hcell⟩⟩
  clear hA0 hval0
  refine (walk a1 len1 cap1 z1 W w1).mono fun e W' ⟨he, bel⟩ => ?_
  subst he
  exact ⟨_, rfl, _, _, _, [], _, [], hW', trodAll_mk1 (shut_bool Tryd.underlying4 _), (trodAll_cons_mk (Below.trod laidOut (by kernel_rfl) (of_decide_eq_true (by kernel_rfl)) k1 bel lt1) trodAll_mk0), rfl, bel.frame _, fun h => by cases h⟩

theorem over : Rows.fnWriteArraySymbolRow.holds Tryd.pinned (OpenSpec.ofChange Rows.fnWriteArraySymbolSpec) :=
  OpenClaim.holds_of_wide 4 Tryd.f4 rfl rfl rfl rfl rfl rfl rfl ⟨rfl, rfl, rfl, rfl, rfl⟩ rfl rfl rfl rfl rfl (by kernel_rfl) Tryd.func4 (by kernel_rfl)
    (of_decide_eq_true (by kernel_rfl)) (by unfold Func.isWrapper; first | (rw [if_pos (by decide +kernel)]; kernel_rfl) | (rw [if_neg (by decide +kernel)]; exact ⟨rfl, rfl⟩))
    (fun os started H enc _ => lifted os started H enc)

/-- ████ THE CARD ████ -/
theorem proved : Rows.FnWriteArraySymbolCardSaid :=
  Claim7.holds_tied_plain_at .later [] [.data, .pinned] true (true, "0bce100a1a01c5ade36c128a6dcd78f86130eaa74c00fa354b6d249635082bfb") false over (fun _ h => by cases h) (by kernel_rfl) (fun _ h => by cases h) fnWriteArraySymbol_row_tie rfl ⟨rfl, rfl⟩ (by kernel_rfl) rfl
    (fun f fn hf hfn => by
      obtain rfl : f = 4 := Option.some.inj ((show Tryd.prog.funcNamed "given.example/pub-saddlebag/laws.FnWriteArraySymbol" = some 4 by kernel_rfl).symm.trans hf) |>.symm
      obtain rfl : fn = Tryd.f4 := (Option.some.inj (Tryd.func4.symm.trans hfn)).symm
      exact ⟨by kernel_rfl, fun j t ht => by
        rw [Tryd.params4] at ht
        have hm : t ∈ [32] := by simpa using Array.mem_of_getElem? ht
        have hall : ([32].all fun u => !Tryd.prog.wantsStandIn u) = true := by kernel_rfl
        exact (show Tryd.prog.wantsStandIn t = false by simpa using List.all_eq_true.1 hall t hm)⟩)
    (by kernel_rfl)
#print axioms proved
end Go.Proofs.YtemlccbnicdfgaaDoor.fnWriteArraySymbol
