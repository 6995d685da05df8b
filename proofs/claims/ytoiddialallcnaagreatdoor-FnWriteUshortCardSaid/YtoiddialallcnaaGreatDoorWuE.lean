/-
  The card of laws.FnWriteUshort holds: for every number of 16 bits the function returns true and leaves what was there as it was. No condition beyond the card's own.
-/
import Derived.Test.YtoiddialallcnaaGreatDoorRows
import Derived.Test.YtoiddialallcnaaGreatDoorCards
import Derived.Test.YtoiddialallcnaaGreatDoorTie
import Derived.WalkKit
import Derived.ProofKit
import Derived.OpenShut
import Derived.ChangeOld
import Derived.Below
import Derived.OpenVars
import Derived.LaidMore
import Derived.Lay
import Derived.SevenTiedAt
import Derived.Stop.Joined
import Derived.ChangeMaps
import Derived.Test.YtoiddialallcnaaGreatDoorWuD
namespace Go.Proofs.YtoiddialallcnaaGreatDoor.fnWriteUshort
open Go.ChangeShapes Go.WideShapes Go.ChangeAt Go.RowKit
set_option linter.unusedVariables false

theorem own : ownKnob Tryz.prog.godebug = none := by kernel_rfl
theorem laidOut : laidOutB Tryz.prog = true := by kernel_rfl

/-! ### STEP 1: THE WALK -/
theorem walk (a0 : Int) (w0 : (Lit.int .u16 a0).wf = true) (w : World) :
    Calls Tryz.prog 3 #[.int .u16 a0] w fun e w' => e = .returned (.bool true) ∧ Below w.heap.size w w' := by
  have hw0 : 0 ≤ a0 ∧ a0 ≤ 65535 := by
    simp [Lit.wf] at w0
    have h1 : IntKind.u16.min = 0 := by decide
    have h2 : IntKind.u16.max = 65535 := by decide
    omega
  refine Go.Ax.walk_of_ACalls (Go.Ax.fnWriteUshort a0 hw0.1 (by omega)) rfl (fun j a x ha hx => ?_)
  match j with
  | 0 => simp at ha hx; subst ha; subst hx; exact .lit _
  | j + 1 => simp at ha

/-! ### THE ROW's STEP -/
set_option maxRecDepth 100000 in
theorem lifted (os : Os) (started : os.Started) (H : Type) (enc : TypeId × Value → H) :
    ReturnsInHanded {} Tryz.checked os 3 .any (fun w args => (Rows.fnWriteUshortSpec.pre enc Tryz.prog Tryz.f3 Rows.fnWriteUshortRow.domain false w args ∧ laidMetH Tryz.prog Rows.fnWriteUshortRow.laid w) ∧ sizedMet enc Tryz.prog Tryz.f3 (OpenSpec.ofChange Rows.fnWriteUshortSpec) false w args)
      (Rows.fnWriteUshortSpec.post enc Tryz.prog Tryz.f3 false true false false) := by
  refine returnsInHanded_of_change_and (C := Tryz.checked) (X := fun w _ => laidMetH Tryz.prog Rows.fnWriteUshortRow.laid w) (fun _ _ _ hh h => h.of_heap hh) own started (by kernel_rfl) Tryz.func3
    (ChangeSpec.witness_shaped (enc := enc) (C := Tryz.checked) (os := os) (X := fun w _ => laidMetH Tryz.prog Rows.fnWriteUshortRow.laid w) false (World.laidAll Tryz.prog os Rows.fnWriteUshortRow.laid) #[.int .u16 0] 8 (World.laidAll_os _ _ _)
      (World.shaped_of_ZipB (by kernel_rfl) (by kernel_rfl)) (by kernel_rfl) (by kernel_rfl) (by kernel_rfl)
      (by rw [MakeChecks.laidMetH_plain _ _ _ (by kernel_rfl)]; exact laidMet_laidAll _ (by kernel_rfl) (by kernel_rfl))) ?_
  intro W base args ds gs before hval0 hW hcnd _ hL _
  have hval : ∀ (j : Nat) t v, Tryz.f3.params[j]? = some t → args[j]? = some v → Value.okWide Tryz.prog W .any base t v := hval0
  have hW' := hW
  obtain ⟨p, q, hA0, hV, rfl, hfz, hnd⟩ := hW
  have hA : DataW.TrodAll enc Tryz.prog W 0 (fun _ => true) true Tryz.f3.params.toList args.toList ds p := hA0
  rw [Tryz.params3] at hA hval
  obtain ⟨v0, vs0, d0, ds0, p0, q0, hargs, rfl, rfl, h0, r0⟩ := trodAll_cons hA
  obtain ⟨rfl, rfl, rfl⟩ := trodAll_nil r0
  obtain rfl : args = #[v0] := by cases args; simp_all
  obtain ⟨rfl, rfl⟩ := trodVars_none hV
  obtain ⟨a0, rfl, rfl, rfl, w0⟩ := open_int Tryz.underlying22 (hval 0 22 v0 rfl rfl) h0
  clear hA0 hval0
  refine (walk a0 w0 W).mono fun e W' ⟨he, bel⟩ => ?_
  subst he
  exact ⟨_, rfl, _, _, _, [], _, [], hW', trodAll_mk1 (shut_bool Tryz.underlying4 _), (trodAll_cons_mk (shut_int Tryz.underlying22 w0) trodAll_mk0), rfl, bel.frame _, fun h => by cases h⟩

theorem over : Rows.fnWriteUshortRow.holds Tryz.pinned (OpenSpec.ofChange Rows.fnWriteUshortSpec) :=
  OpenClaim.holds_of_wide 3 Tryz.f3 rfl rfl rfl rfl rfl rfl rfl ⟨rfl, rfl, rfl, rfl, rfl⟩ rfl rfl rfl rfl rfl (by kernel_rfl) Tryz.func3 (by kernel_rfl)
    (of_decide_eq_true (by kernel_rfl)) (by unfold Func.isWrapper; first | (rw [if_pos (by decide +kernel)]; kernel_rfl) | (rw [if_neg (by decide +kernel)]; exact ⟨rfl, rfl⟩))
    (fun os started H enc _ => lifted os started H enc)

/-- ████ THE CARD ████ -/
theorem proved : Rows.FnWriteUshortCardSaid :=
  Claim7.holds_tied_plain_at .later [] [.data, .pinned] true (true, "0d245d1f0f8b49600e22c841050f41e666114393e19e887d9c3e694a84915258") true over (fun _ h => by cases h) (by kernel_rfl) (fun _ h => by cases h) fnWriteUshort_row_tie rfl ⟨rfl, rfl⟩ (by kernel_rfl) rfl
    (fun f fn hf hfn => by
      obtain rfl : f = 3 := Option.some.inj ((show Tryz.prog.funcNamed "given.example/pub-saddlebag/laws.FnWriteUshort" = some 3 by kernel_rfl).symm.trans hf) |>.symm
      obtain rfl : fn = Tryz.f3 := (Option.some.inj (Tryz.func3.symm.trans hfn)).symm
      exact ⟨by kernel_rfl, fun j t ht => by
        rw [Tryz.params3] at ht
        have hm : t ∈ [22] := by simpa using Array.mem_of_getElem? ht
        have hall : ([22].all fun u => !Tryz.prog.wantsStandIn u) = true := by kernel_rfl
        exact (show Tryz.prog.wantsStandIn t = false by simpa using List.all_eq_true.1 hall t hm)⟩)
    (by kernel_rfl)
#print axioms proved
end Go.Proofs.YtoiddialallcnaaGreatDoor.fnWriteUshort
