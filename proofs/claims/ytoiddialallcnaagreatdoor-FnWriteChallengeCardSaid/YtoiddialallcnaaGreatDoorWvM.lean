/-
  The card of laws.FnWriteChallenge holds: for every list of bytes the function returns true and leaves what was there as it was. No condition beyond the card's own.
-/
import Derived.Test.YtoiddialallcnaaGreatDoorRows
import Derived.Test.YtoiddialallcnaaGreatDoorCards
import Derived.Test.YtoiddialallcnaaGreatDoorTie
import Derived.WalkKit
import Derived.ProofKit
import Derived.OpenShut
import Derived.ChangeOld
import Derived.Below
import Derived.OpenVars
import Derived.LaidMore
import Derived.Lay
import Derived.SevenTiedAt
import Derived.Stop.Joined
import Derived.ChangeMaps
import Derived.Test.YtoiddialallcnaaGreatDoorWvL
namespace Go.Proofs.YtoiddialallcnaaGreatDoor.fnWriteChallenge
open Go.ChangeShapes Go.WideShapes Go.ChangeAt Go.RowKit
set_option linter.unusedVariables false

theorem own : ownKnob Tryz.prog.godebug = none := by kernel_rfl
theorem laidOut : laidOutB Tryz.prog = true := by kernel_rfl

/-! ### STEP 1: THE WALK -/
theorem walk (b0 : List UInt8) (hb0 : b0.length ≤ maxLen) (x0 : Value) (w : World) (hd0 : Go.Ax.DR (fun b => b < w.heap.size) w (.bts b0) x0) :
    Calls Tryz.prog 4 #[x0] w fun e w' => e = .returned (.bool true) ∧ Below w.heap.size w w' := by
  refine Go.Ax.walk_of_ACalls (Go.Ax.fnWriteChallenge b0) rfl (fun j a x ha hx => ?_)
  match j with
  | 0 => simp at ha hx; subst ha; subst hx; exact hd0
  | j + 1 => simp at ha

/-! ### THE ROW's STEP -/
set_option maxRecDepth 100000 in
theorem lifted (os : Os) (started : os.Started) (H : Type) (enc : TypeId × Value → H) :
    ReturnsInHanded {} Tryz.checked os 4 .any (fun w args => (Rows.fnWriteChallengeSpec.pre enc Tryz.prog Tryz.f4 Rows.fnWriteChallengeRow.domain false w args ∧ laidMetH Tryz.prog Rows.fnWriteChallengeRow.laid w) ∧ sizedMet enc Tryz.prog Tryz.f4 (OpenSpec.ofChange Rows.fnWriteChallengeSpec) false w args)
      (Rows.fnWriteChallengeSpec.post enc Tryz.prog Tryz.f4 false true false false) := by
  refine returnsInHanded_of_change_and (C := Tryz.checked) (X := fun w _ => laidMetH Tryz.prog Rows.fnWriteChallengeRow.laid w) (fun _ _ _ hh h => h.of_heap hh) own started (by kernel_rfl) Tryz.func4
    (ChangeSpec.witness_shaped (enc := enc) (C := Tryz.checked) (os := os) (X := fun w _ => laidMetH Tryz.prog Rows.fnWriteChallengeRow.laid w) false (World.laidAll Tryz.prog os Rows.fnWriteChallengeRow.laid) #[.slice none 0 0] 8 (World.laidAll_os _ _ _)
      (World.shaped_of_ZipB (by kernel_rfl) (by kernel_rfl)) (by kernel_rfl) (by kernel_rfl) (by kernel_rfl)
      (by rw [MakeChecks.laidMetH_plain _ _ _ (by kernel_rfl)]; exact laidMet_laidAll _ (by kernel_rfl) (by kernel_rfl))) ?_
  intro W base args ds gs before hval0 hW hcnd _ hL _
  have hval : ∀ (j : Nat) t v, Tryz.f4.params[j]? = some t → args[j]? = some v → Value.okWide Tryz.prog W .any base t v := hval0
  have hW' := hW
  obtain ⟨p, q, hA0, hV, rfl, hfz, hnd⟩ := hW
  have hA : DataW.TrodAll enc Tryz.prog W 0 (fun _ => true) true Tryz.f4.params.toList args.toList ds p := hA0
  rw [Tryz.params4] at hA hval
  obtain ⟨v0, vs0, d0, ds0, p0, q0, hargs, rfl, rfl, h0, r0⟩ := trodAll_cons hA
  obtain ⟨rfl, rfl, rfl⟩ := trodAll_nil r0
  obtain rfl : args = #[v0] := by cases args; simp_all
  obtain ⟨rfl, rfl⟩ := trodVars_none hV
  obtain ⟨e0, f0, g0, rfl⟩ := okWide_slice Tryz.underlying23 (hval 0 23 v0 rfl rfl)
  have k0 := h0
  have lt0 : ∀ x ∈ p0, x.block < W.heap.size := by obtain ⟨m, hm⟩ := k0; exact DataW.trod_lt m _ _ _ hm
  obtain ⟨b0, hd0, hb0⟩ : ∃ bs : List UInt8, Go.Ax.DR (fun b => b < W.heap.size) W (.bts bs) (.slice e0 f0 g0) ∧ bs.length ≤ maxLen := by
    obtain ⟨fuel, hf⟩ := h0
    obtain ⟨bs, hx, hl⟩ := Go.Ax.in_bytes Tryz.underlying23 Tryz.underlying5 (by kernel_rfl) hf
    exact ⟨bs, Go.Ax.DRs.get hx, hl⟩
  clear hA0 hval0
  refine (walk b0 hb0 _ W hd0).mono fun e W' ⟨he, bel⟩ => ?_
  subst he
  exact ⟨_, rfl, _, _, _, [], _, [], hW', trodAll_mk1 (shut_bool Tryz.underlying4 _), (trodAll_cons_mk (Below.trod laidOut (by kernel_rfl) (of_decide_eq_true (by kernel_rfl)) k0 bel lt0) trodAll_mk0), rfl, bel.frame _, fun h => by cases h⟩

theorem over : Rows.fnWriteChallengeRow.holds Tryz.pinned (OpenSpec.ofChange Rows.fnWriteChallengeSpec) :=
  OpenClaim.holds_of_wide 4 Tryz.f4 rfl rfl rfl rfl rfl rfl rfl ⟨rfl, rfl, rfl, rfl, rfl⟩ rfl rfl rfl rfl rfl (by kernel_rfl) Tryz.func4 (by kernel_rfl)
    (of_decide_eq_true (by kernel_rfl)) (by unfold Func.isWrapper; first | (rw [if_pos (by decide +kernel)]; kernel_rfl) | (rw [if_neg (by decide +kernel)]; exact ⟨rfl, rfl⟩))
    (fun os started H enc _ => lifted os started H enc)

/-- ████ THE CARD ████ -/
theorem proved : Rows.FnWriteChallengeCardSaid :=
  Claim7.holds_tied_plain_at .later [] [.data, .pinned] true (true, "0d245d1f0f8b49600e22c841050f41e666114393e19e887d9c3e694a84915258") true over (fun _ h => by cases h) (by kernel_rfl) (fun _ h => by cases h) fnWriteChallenge_row_tie rfl ⟨rfl, rfl⟩ (by kernel_rfl) rfl
    (fun f fn hf hfn => by
      obtain rfl : f = 4 := Option.some.inj ((show Tryz.prog.funcNamed "given.example/pub-saddlebag/laws.FnWriteChallenge" = some 4 by kernel_rfl).symm.trans hf) |>.symm
      obtain rfl : fn = Tryz.f4 := (Option.some.inj (Tryz.func4.symm.trans hfn)).symm
      exact ⟨by kernel_rfl, fun j t ht => by
        rw [Tryz.params4] at ht
        have hm : t ∈ [23] := by simpa using Array.mem_of_getElem? ht
        have hall : ([23].all fun u => !Tryz.prog.wantsStandIn u) = true := by kernel_rfl
        exact (show Tryz.prog.wantsStandIn t = false by simpa using List.all_eq_true.1 hall t hm)⟩)
    (by kernel_rfl)
#print axioms proved
end Go.Proofs.YtoiddialallcnaaGreatDoor.fnWriteChallenge
