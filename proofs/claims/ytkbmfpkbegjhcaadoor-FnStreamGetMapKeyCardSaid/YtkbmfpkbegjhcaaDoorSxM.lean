/-
  The card of laws.FnStreamGetMapKey holds: for every list of texts, number of forms, size of a buffer and of a source's pieces the function returns true and leaves what was there as it was. No condition beyond the card's own.
-/
import Derived.Test.YtkbmfpkbegjhcaaDoorRows
import Derived.Test.YtkbmfpkbegjhcaaDoorCards
import Derived.Test.YtkbmfpkbegjhcaaDoorTie
import Derived.WalkKit
import Derived.ProofKit
import Derived.OpenShut
import Derived.ChangeOld
import Derived.Below
import Derived.OpenVars
import Derived.LaidMore
import Derived.Lay
import Derived.SevenTiedAt
import Derived.Stop.Joined
import Derived.ChangeMaps
import Derived.Test.YtkbmfpkbegjhcaaDoorTrE
namespace Go.Proofs.YtkbmfpkbegjhcaaDoor.fnStreamGetMapKey
open Go.ChangeShapes Go.WideShapes Go.ChangeAt Go.RowKit
set_option linter.unusedVariables false

theorem own : ownKnob Tryd.prog.godebug = none := by kernel_rfl
theorem laidOut : laidOutB Tryd.prog = true := by kernel_rfl

/-! ### STEP 1: THE WALK -/
theorem walk (l0 : List ByteArray) (hb0 : l0.length ≤ maxLen) (hm0 : ∀ y ∈ l0, y.size ≤ maxLen) (x0 : Value) (a1 : Int) (w1 : (Lit.int .u64 a1).wf = true) (a2 : Int) (w2 : (Lit.int .i64 a2).wf = true) (a3 : Int) (w3 : (Lit.int .i64 a3).wf = true) (w : World) (hd0 : Go.Ax.DR (fun b => b < w.heap.size) w (.ro 1 l0.length (fun i => [.lit (.string (l0.getD i .empty))])) x0) :
    Calls Tryd.prog 6 #[x0, .int .u64 a1, .int .i64 a2, .int .i64 a3] w fun e w' => e = .returned (.bool true) ∧ Below w.heap.size w w' := by
  have hw1 : 0 ≤ a1 ∧ a1 ≤ 18446744073709551615 := by
    simp [Lit.wf] at w1
    have h1 : IntKind.u64.min = 0 := by decide
    have h2 : IntKind.u64.max = 18446744073709551615 := by decide
    omega
  have hw2 : -9223372036854775808 ≤ a2 ∧ a2 ≤ 9223372036854775807 := by
    simp [Lit.wf] at w2
    have h1 : IntKind.i64.min = -9223372036854775808 := by decide
    have h2 : IntKind.i64.max = 9223372036854775807 := by decide
    omega
  have hw3 : -9223372036854775808 ≤ a3 ∧ a3 ≤ 9223372036854775807 := by
    simp [Lit.wf] at w3
    have h1 : IntKind.i64.min = -9223372036854775808 := by decide
    have h2 : IntKind.i64.max = 9223372036854775807 := by decide
    omega
  refine Go.Ax.walk_of_ACalls (Go.Ax.lawm l0 a1 a2 a3) rfl (fun j a x ha hx => ?_)
  match j with
  | 0 => simp at ha hx; subst ha; subst hx; exact hd0
  | 1 => simp at ha hx; subst ha; subst hx; exact .lit _
  | 2 => simp at ha hx; subst ha; subst hx; exact .lit _
  | 3 => simp at ha hx; subst ha; subst hx; exact .lit _
  | j + 4 => simp at ha

/-! ### THE ROW's STEP -/
set_option maxRecDepth 100000 in
theorem lifted (os : Os) (started : os.Started) (H : Type) (enc : TypeId × Value → H) :
    ReturnsInHanded {} Tryd.checked os 6 .any (fun w args => (Rows.fnStreamGetMapKeySpec.pre enc Tryd.prog Tryd.f6 Rows.fnStreamGetMapKeyRow.domain false w args ∧ laidMetH Tryd.prog Rows.fnStreamGetMapKeyRow.laid w) ∧ sizedMet enc Tryd.prog Tryd.f6 (OpenSpec.ofChange Rows.fnStreamGetMapKeySpec) false w args)
      (Rows.fnStreamGetMapKeySpec.post enc Tryd.prog Tryd.f6 false true false false) := by
  refine returnsInHanded_of_change_and (C := Tryd.checked) (X := fun w _ => laidMetH Tryd.prog Rows.fnStreamGetMapKeyRow.laid w) (fun _ _ _ hh h => h.of_heap hh) own started (by kernel_rfl) Tryd.func6
    (ChangeSpec.witness_shaped (enc := enc) (C := Tryd.checked) (os := os) (X := fun w _ => laidMetH Tryd.prog Rows.fnStreamGetMapKeyRow.laid w) false (World.laidAll Tryd.prog os Rows.fnStreamGetMapKeyRow.laid) #[.slice none 0 0, .int .u64 0, .int .i64 0, .int .i64 0] 8 (World.laidAll_os _ _ _)
      (World.shaped_of_ZipB (by kernel_rfl) (by kernel_rfl)) (by kernel_rfl) (by kernel_rfl) (by kernel_rfl)
      (by rw [MakeChecks.laidMetH_plain _ _ _ (by kernel_rfl)]; exact laidMet_laidAll _ (by kernel_rfl) (by kernel_rfl))) ?_
  intro W base args ds gs before hval0 hW hcnd _ hL _
  have hval : ∀ (j : Nat) t v, Tryd.f6.params[j]? = some t → args[j]? = some v → Value.okWide Tryd.prog W .any base t v := hval0
  have hW' := hW
  obtain ⟨p, q, hA0, hV, rfl, hfz, hnd⟩ := hW
  have hA : DataW.TrodAll enc Tryd.prog W 0 (fun _ => true) true Tryd.f6.params.toList args.toList ds p := hA0
  rw [Tryd.params6] at hA hval
  obtain ⟨v0, vs0, d0, ds0, p0, q0, hargs, rfl, rfl, h0, r0⟩ := trodAll_cons hA
  obtain ⟨v1, vs1, d1, ds1, p1, q1, rfl, rfl, rfl, h1, r1⟩ := trodAll_cons r0
  obtain ⟨v2, vs2, d2, ds2, p2, q2, rfl, rfl, rfl, h2, r2⟩ := trodAll_cons r1
  obtain ⟨v3, vs3, d3, ds3, p3, q3, rfl, rfl, rfl, h3, r3⟩ := trodAll_cons r2
  obtain ⟨rfl, rfl, rfl⟩ := trodAll_nil r3
  obtain rfl : args = #[v0, v1, v2, v3] := by cases args; simp_all
  obtain ⟨e0, f0, g0, rfl⟩ := okWide_slice Tryd.underlying22 (hval 0 22 v0 rfl rfl)
  have k0 := h0
  have lt0 : ∀ x ∈ p0, x.block < W.heap.size := by obtain ⟨m, hm⟩ := k0; exact DataW.trod_lt m _ _ _ hm
  obtain ⟨l0, hd0, hb0, hm0⟩ : ∃ l0 : List ByteArray, Go.Ax.DR (fun b => b < W.heap.size) W (.ro 1 l0.length (fun i => [.lit (.string (l0.getD i .empty))])) (.slice e0 f0 g0) ∧ l0.length ≤ maxLen ∧ ∀ y ∈ l0, y.size ≤ maxLen := by
    obtain ⟨fuel, hf⟩ := h0
    obtain ⟨l, hx, hl, hm⟩ := Go.Ax.in_strings Tryd.underlying22 Tryd.underlying9 (by kernel_rfl) hf
    exact ⟨l, Go.Ax.DRs.get hx, hl, hm⟩
  obtain ⟨a1, rfl, rfl, rfl, w1⟩ := open_int Tryd.underlying23 (hval 1 23 v1 rfl rfl) h1
  obtain ⟨a2, rfl, rfl, rfl, w2⟩ := open_int Tryd.underlying3 (hval 2 3 v2 rfl rfl) h2
  obtain ⟨a3, rfl, rfl, rfl, w3⟩ := open_int Tryd.underlying3 (hval 3 3 v3 rfl rfl) h3
  clear hA0 hval0
  refine (walk l0 hb0 hm0 _ a1 w1 a2 w2 a3 w3 W hd0).mono fun e W' ⟨he, bel⟩ => ?_
  subst he
  have hV2 := Below.trodVars laidOut bel (by kernel_rfl) hV
  obtain ⟨yg1, rfl⟩ : ∃ g1, gs = [g1] := by
    match gs, hV with
    | [g1], _ => exact ⟨g1, rfl⟩
  exact ⟨_, rfl, _, _, _, [], _, _, hW', trodAll_mk1 (shut_bool Tryd.underlying4 _), (trodAll_cons_mk (Below.trod laidOut (by kernel_rfl) (of_decide_eq_true (by kernel_rfl)) k0 bel lt0) (trodAll_cons_mk (shut_int Tryd.underlying23 w1) (trodAll_cons_mk (shut_int Tryd.underlying3 w2) (trodAll_cons_mk (shut_int Tryd.underlying3 w3) trodAll_mk0)))), hV2, bel.frame _, fun h => by cases h⟩

theorem over : Rows.fnStreamGetMapKeyRow.holds Tryd.pinned (OpenSpec.ofChange Rows.fnStreamGetMapKeySpec) :=
  OpenClaim.holds_of_wide 6 Tryd.f6 rfl rfl rfl rfl rfl rfl rfl ⟨rfl, rfl, rfl, rfl, rfl⟩ rfl rfl rfl rfl rfl (by kernel_rfl) Tryd.func6 (by kernel_rfl)
    (of_decide_eq_true (by kernel_rfl)) (by unfold Func.isWrapper; first | (rw [if_pos (by decide +kernel)]; kernel_rfl) | (rw [if_neg (by decide +kernel)]; exact ⟨rfl, rfl⟩))
    (fun os started H enc _ => lifted os started H enc)

/-- ████ THE CARD ████ -/
theorem proved : Rows.FnStreamGetMapKeyCardSaid :=
  Claim7.holds_tied_plain_at .later [] [.sentinel, .sentinel, .wider] true (true, "bf63f530940db63ad3ebd75396fe40b036b5391262ab28dcda1356182ba17e8c") true over (fun _ h => by cases h) (by kernel_rfl) (fun _ h => by cases h) fnStreamGetMapKey_row_tie rfl ⟨rfl, rfl⟩ (by kernel_rfl) rfl
    (fun f fn hf hfn => by
      obtain rfl : f = 6 := Option.some.inj ((show Tryd.prog.funcNamed "given.example/pub-saddlebag/laws.FnStreamGetMapKey" = some 6 by kernel_rfl).symm.trans hf) |>.symm
      obtain rfl : fn = Tryd.f6 := (Option.some.inj (Tryd.func6.symm.trans hfn)).symm
      exact ⟨by kernel_rfl, fun j t ht => by
        rw [Tryd.params6] at ht
        have hm : t ∈ [22, 23, 3, 3] := by simpa using Array.mem_of_getElem? ht
        have hall : ([22, 23, 3, 3].all fun u => !Tryd.prog.wantsStandIn u) = true := by kernel_rfl
        exact (show Tryd.prog.wantsStandIn t = false by simpa using List.all_eq_true.1 hall t hm)⟩)
    (by kernel_rfl)
#print axioms proved
end Go.Proofs.YtkbmfpkbegjhcaaDoor.fnStreamGetMapKey
