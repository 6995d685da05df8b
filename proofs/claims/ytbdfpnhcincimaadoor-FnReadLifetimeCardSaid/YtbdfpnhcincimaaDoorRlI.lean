/-
  The card of laws.FnReadLifetime holds: for every code, state of the forms and bytes behind, the function returns true and leaves what was there as it was. No condition beyond the card's own.
-/
import Derived.Test.YtbdfpnhcincimaaDoorRows
import Derived.Test.YtbdfpnhcincimaaDoorCards
import Derived.Test.YtbdfpnhcincimaaDoorTie
import Derived.WalkKit
import Derived.ProofKit
import Derived.OpenShut
import Derived.ChangeOld
import Derived.Below
import Derived.OpenVars
import Derived.LaidMore
import Derived.Lay
import Derived.SevenTiedAt
import Derived.Stop.Joined
import Derived.ChangeMaps
import Derived.Test.YtbdfpnhcincimaaDoorRlH
namespace Go.Proofs.YtbdfpnhcincimaaDoor.fnReadLifetime
open Go.ChangeShapes Go.WideShapes Go.ChangeAt Go.RowKit
set_option linter.unusedVariables false

theorem own : ownKnob Tryd.prog.godebug = none := by kernel_rfl
theorem laidOut : laidOutB Tryd.prog = true := by kernel_rfl

/-! ### STEP 1: THE WALK -/
theorem walk (a0 : Int) (w0 : (Lit.int .u8 a0).wf = true) (a1 : Int) (w1 : (Lit.int .u64 a1).wf = true) (b2 : List UInt8) (hb2 : b2.length ≤ maxLen) (x2 : Value) (w : World) (hd2 : Go.Ax.DR (fun b => b < w.heap.size) w (.bts b2) x2) :
    Calls Tryd.prog 5 #[.int .u8 a0, .int .u64 a1, x2] w fun e w' => e = .returned (.bool true) ∧ Below w.heap.size w w' := by
  have hw0 : 0 ≤ a0 ∧ a0 ≤ 255 := by
    simp [Lit.wf] at w0
    have h1 : IntKind.u8.min = 0 := by decide
    have h2 : IntKind.u8.max = 255 := by decide
    omega
  have hw1 : 0 ≤ a1 ∧ a1 ≤ 18446744073709551615 := by
    simp [Lit.wf] at w1
    have h1 : IntKind.u64.min = 0 := by decide
    have h2 : IntKind.u64.max = 18446744073709551615 := by decide
    omega
  refine Go.Ax.walk_of_ACalls (Go.Ax.fnReadLifetimeC a0 hw0.1 (by omega) a1 b2) rfl (fun j a x ha hx => ?_)
  match j with
  | 0 => simp at ha hx; subst ha; subst hx; exact .lit _
  | 1 => simp at ha hx; subst ha; subst hx; exact .lit _
  | 2 => simp at ha hx; subst ha; subst hx; exact hd2
  | j + 3 => simp at ha

/-! ### THE ROW's STEP -/
set_option maxRecDepth 100000 in
theorem lifted (os : Os) (started : os.Started) (H : Type) (enc : TypeId × Value → H) :
    ReturnsInHanded {} Tryd.checked os 5 .any (fun w args => (Rows.fnReadLifetimeSpec.pre enc Tryd.prog Tryd.f5 Rows.fnReadLifetimeRow.domain false w args ∧ laidMetH Tryd.prog Rows.fnReadLifetimeRow.laid w) ∧ sizedMet enc Tryd.prog Tryd.f5 (OpenSpec.ofChange Rows.fnReadLifetimeSpec) false w args)
      (Rows.fnReadLifetimeSpec.post enc Tryd.prog Tryd.f5 false true false false) := by
  refine returnsInHanded_of_change_and (C := Tryd.checked) (X := fun w _ => laidMetH Tryd.prog Rows.fnReadLifetimeRow.laid w) (fun _ _ _ hh h => h.of_heap hh) own started (by kernel_rfl) Tryd.func5
    (ChangeSpec.witness_shaped (enc := enc) (C := Tryd.checked) (os := os) (X := fun w _ => laidMetH Tryd.prog Rows.fnReadLifetimeRow.laid w) false (World.laidAll Tryd.prog os Rows.fnReadLifetimeRow.laid) #[.int .u8 0, .int .u64 0, .slice none 0 0] 8 (World.laidAll_os _ _ _)
      (World.shaped_of_ZipB (by kernel_rfl) (by kernel_rfl)) (by kernel_rfl) (by kernel_rfl) (by kernel_rfl)
      (by rw [MakeChecks.laidMetH_plain _ _ _ (by kernel_rfl)]; exact laidMet_laidAll _ (by kernel_rfl) (by kernel_rfl))) ?_
  intro W base args ds gs before hval0 hW hcnd _ hL _
  have hval : ∀ (j : Nat) t v, Tryd.f5.params[j]? = some t → args[j]? = some v → Value.okWide Tryd.prog W .any base t v := hval0
  have hW' := hW
  obtain ⟨p, q, hA0, hV, rfl, hfz, hnd⟩ := hW
  have hA : DataW.TrodAll enc Tryd.prog W 0 (fun _ => true) true Tryd.f5.params.toList args.toList ds p := hA0
  rw [Tryd.params5] at hA hval
  obtain ⟨v0, vs0, d0, ds0, p0, q0, hargs, rfl, rfl, h0, r0⟩ := trodAll_cons hA
  obtain ⟨v1, vs1, d1, ds1, p1, q1, rfl, rfl, rfl, h1, r1⟩ := trodAll_cons r0
  obtain ⟨v2, vs2, d2, ds2, p2, q2, rfl, rfl, rfl, h2, r2⟩ := trodAll_cons r1
  obtain ⟨rfl, rfl, rfl⟩ := trodAll_nil r2
  obtain rfl : args = #[v0, v1, v2] := by cases args; simp_all
  obtain ⟨rfl, rfl⟩ := trodVars_none hV
  obtain ⟨a0, rfl, rfl, rfl, w0⟩ := open_int Tryd.underlying5 (hval 0 5 v0 rfl rfl) h0
  obtain ⟨a1, rfl, rfl, rfl, w1⟩ := open_int Tryd.underlying22 (hval 1 22 v1 rfl rfl) h1
  obtain ⟨e2, f2, g2, rfl⟩ := okWide_slice Tryd.underlying26 (hval 2 26 v2 rfl rfl)
  have k2 := h2
  have lt2 : ∀ x ∈ p2, x.block < W.heap.size := by obtain ⟨m, hm⟩ := k2; exact DataW.trod_lt m _ _ _ hm
  obtain ⟨b2, hd2, hb2⟩ : ∃ bs : List UInt8, Go.Ax.DR (fun b => b < W.heap.size) W (.bts bs) (.slice e2 f2 g2) ∧ bs.length ≤ maxLen := by
    obtain ⟨fuel, hf⟩ := h2
    obtain ⟨bs, hx, hl⟩ := Go.Ax.in_bytes Tryd.underlying26 Tryd.underlying5 (by kernel_rfl) hf
    exact ⟨bs, Go.Ax.DRs.get hx, hl⟩
  clear hA0 hval0
  refine (walk a0 w0 a1 w1 b2 hb2 _ W hd2).mono fun e W' ⟨he, bel⟩ => ?_
  subst he
  exact ⟨_, rfl, _, _, _, [], _, [], hW', trodAll_mk1 (shut_bool Tryd.underlying4 _), (trodAll_cons_mk (shut_int Tryd.underlying5 w0) (trodAll_cons_mk (shut_int Tryd.underlying22 w1) (trodAll_cons_mk (Below.trod laidOut (by kernel_rfl) (of_decide_eq_true (by kernel_rfl)) k2 bel lt2) trodAll_mk0))), rfl, bel.frame _, fun h => by cases h⟩

theorem over : Rows.fnReadLifetimeRow.holds Tryd.pinned (OpenSpec.ofChange Rows.fnReadLifetimeSpec) :=
  OpenClaim.holds_of_wide 5 Tryd.f5 rfl rfl rfl rfl rfl rfl rfl ⟨rfl, rfl, rfl, rfl, rfl⟩ rfl rfl rfl rfl rfl (by kernel_rfl) Tryd.func5 (by kernel_rfl)
    (of_decide_eq_true (by kernel_rfl)) (by unfold Func.isWrapper; first | (rw [if_pos (by decide +kernel)]; kernel_rfl) | (rw [if_neg (by decide +kernel)]; exact ⟨rfl, rfl⟩))
    (fun os started H enc _ => lifted os started H enc)

/-- ████ THE CARD ████ -/
theorem proved : Rows.FnReadLifetimeCardSaid :=
  Claim7.holds_tied_plain_at .later [] [.sentinel] true (true, "5eeab1a4edc70ea446e75cbd84de2e53eb93f88398978a7048b959b144bb6546") false over (fun _ h => by cases h) (by kernel_rfl) (fun _ h => by cases h) fnReadLifetime_row_tie rfl ⟨rfl, rfl⟩ (by kernel_rfl) rfl
    (fun f fn hf hfn => by
      obtain rfl : f = 5 := Option.some.inj ((show Tryd.prog.funcNamed "given.example/pub-saddlebag/laws.FnReadLifetime" = some 5 by kernel_rfl).symm.trans hf) |>.symm
      obtain rfl : fn = Tryd.f5 := (Option.some.inj (Tryd.func5.symm.trans hfn)).symm
      exact ⟨by kernel_rfl, fun j t ht => by
        rw [Tryd.params5] at ht
        have hm : t ∈ [5, 22, 26] := by simpa using Array.mem_of_getElem? ht
        have hall : ([5, 22, 26].all fun u => !Tryd.prog.wantsStandIn u) = true := by kernel_rfl
        exact (show Tryd.prog.wantsStandIn t = false by simpa using List.all_eq_true.1 hall t hm)⟩)
    (by kernel_rfl)
#print axioms proved
end Go.Proofs.YtbdfpnhcincimaaDoor.fnReadLifetime
