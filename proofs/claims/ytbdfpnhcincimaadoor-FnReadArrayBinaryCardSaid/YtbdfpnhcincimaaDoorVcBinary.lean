/-
  The card of laws.FnReadArrayBinary holds: an array of binaries is read in any of its forms, and what stands behind it is told; a value that is no array, an array of another kind and one that is cut off are refused. Where the listed package-level variables (errors) read as the program's text lays them (the card ties that). No condition beyond the card's own.
-/
import Derived.Test.YtbdfpnhcincimaaDoorRows
import Derived.Test.YtbdfpnhcincimaaDoorCards
import Derived.Test.YtbdfpnhcincimaaDoorTie
import Derived.WalkKit
import Derived.ProofKit
import Derived.OpenShut
import Derived.ChangeOld
import Derived.Below
import Derived.OpenVars
import Derived.LaidMore
import Derived.Lay
import Derived.SevenTiedAt
import Derived.Stop.Joined
import Derived.ChangeMaps
import Derived.Test.YtbdfpnhcincimaaDoorVbBinary
namespace Go.Proofs.YtbdfpnhcincimaaDoor.fnReadArrayBinary
open Go.ChangeShapes Go.WideShapes Go.ChangeAt Go.RowKit
set_option linter.unusedVariables false

theorem own : ownKnob Tryd.prog.godebug = none := by kernel_rfl
theorem laidOut : laidOutB Tryd.prog = true := by kernel_rfl

/-! ### STEP 1: THE WALK -/
theorem walk (p : Go.Ax.ValT) (hw : p.wf) (fs : Int) (bh : List UInt8) (ct : Int) (hct : ct < 9223372036854775808) (v : Value) (w : World) (hd : Go.Ax.DR (fun b => b < w.heap.size) w (Go.Ax.hAV p fs bh ct) v) (h : laidMetH Tryd.prog Rows.fnReadArrayBinaryRow.laid w) :
    Calls Tryd.prog 11 #[v] w fun e w' => e = .returned (.bool true) ∧ Below w.heap.size w w' := by
  rw [MakeChecks.laidMetH_plain _ _ _ (by kernel_rfl)] at h
  obtain ⟨u0, hG⟩ := Go.Ax.glob_laid h
  refine Go.Ax.walk_of_ACallsG (Go.Ax.fnReadArrayBinaryC u0 p hw fs bh ct hct) rfl (fun j a x ha hx => ?_) hG
  match j with
  | 0 => simp at ha hx; subst ha; subst hx; exact hd
  | j + 1 => simp at ha

/-! ### THE ROW's STEP -/
set_option maxRecDepth 100000 in
theorem lifted (os : Os) (started : os.Started) (H : Type) (enc : TypeId × Value → H) :
    ReturnsInHanded {} Tryd.checked os 11 .any (fun w args => (Rows.fnReadArrayBinarySpec.pre enc Tryd.prog Tryd.f11 Rows.fnReadArrayBinaryRow.domain false w args ∧ laidMetH Tryd.prog Rows.fnReadArrayBinaryRow.laid w) ∧ sizedMet enc Tryd.prog Tryd.f11 (OpenSpec.ofChange Rows.fnReadArrayBinarySpec) false w args)
      (Rows.fnReadArrayBinarySpec.post enc Tryd.prog Tryd.f11 false true false false) := by
  refine returnsInHanded_of_change_and (C := Tryd.checked) (X := fun w _ => laidMetH Tryd.prog Rows.fnReadArrayBinaryRow.laid w) (fun _ _ _ hh h => h.of_heap hh) own started (by kernel_rfl) Tryd.func11
    (ChangeSpec.witness_shaped (enc := enc) (C := Tryd.checked) (os := os) (X := fun w _ => laidMetH Tryd.prog Rows.fnReadArrayBinaryRow.laid w) false (World.laidAll Tryd.prog os Rows.fnReadArrayBinaryRow.laid) #[.agg #[.int .i64 0, .int .u64 0, .string ⟨#[]⟩, .slice none 0 0, .int .i64 0, .slice none 0 0, .int .u64 0, .slice none 0 0, .int .i64 0]] 8 (World.laidAll_os _ _ _)
      (World.shaped_of_ZipB (by kernel_rfl) (by kernel_rfl)) (by kernel_rfl) (by kernel_rfl) (by kernel_rfl)
      (by rw [MakeChecks.laidMetH_plain _ _ _ (by kernel_rfl)]; exact laidMet_laidAll _ (by kernel_rfl) (by kernel_rfl))) ?_
  intro W base args ds gs before hval0 hW hcnd _ hL _
  have hval : ∀ (j : Nat) t v, Tryd.f11.params[j]? = some t → args[j]? = some v → Value.okWide Tryd.prog W .any base t v := hval0
  have hW' := hW
  obtain ⟨p, q, hA0, hV, rfl, hfz, hnd⟩ := hW
  have hA : DataW.TrodAll enc Tryd.prog W 0 (fun _ => true) true Tryd.f11.params.toList args.toList ds p := hA0
  rw [Tryd.params11] at hA hval
  obtain ⟨v0, vs0, d0, ds0, p0, q0, hargs, rfl, rfl, h0, r0⟩ := trodAll_cons hA
  obtain ⟨rfl, rfl, rfl⟩ := trodAll_nil r0
  obtain rfl : args = #[v0] := by cases args; simp_all
  obtain ⟨vs, rfl, -⟩ := okWide_struct Tryd.underlying28 (hval 0 28 v0 rfl rfl)
  have k0 := h0
  have lt0 : ∀ x ∈ p0, x.block < W.heap.size := by obtain ⟨m, hm⟩ := k0; exact DataW.trod_lt m _ _ _ hm
  obtain ⟨pk, fs, bh, ct, hw, hct, hd⟩ : ∃ (pk : Go.Ax.ValT) (fs : Int) (bh : List UInt8) (ct : Int), pk.wf ∧ ct < 9223372036854775808 ∧ Go.Ax.DR (fun b => b < W.heap.size) W (Go.Ax.hAV pk fs bh ct) (.agg vs) := by
    obtain ⟨fuel, hf⟩ := h0
    exact Go.Ax.in_handed hf
  clear hA0 hval0
  refine (walk pk hw fs bh ct hct (.agg vs) W hd hL).mono fun e W' ⟨he, bel⟩ => ?_
  subst he
  obtain ⟨rfl, rfl⟩ := trodVars_none hV
  exact ⟨_, rfl, _, _, _, [], _, [], hW', trodAll_mk1 (shut_bool Tryd.underlying4 _), (trodAll_cons_mk (Below.trod laidOut (by kernel_rfl) (of_decide_eq_true (by kernel_rfl)) k0 bel lt0) trodAll_mk0), rfl, bel.frame _, fun h => by cases h⟩

theorem over : Rows.fnReadArrayBinaryRow.holds Tryd.pinned (OpenSpec.ofChange Rows.fnReadArrayBinarySpec) :=
  OpenClaim.holds_of_wide 11 Tryd.f11 rfl rfl rfl rfl rfl rfl rfl ⟨rfl, rfl, rfl, rfl, rfl⟩ rfl rfl rfl rfl rfl (by kernel_rfl) Tryd.func11 (by kernel_rfl)
    (of_decide_eq_true (by kernel_rfl)) (by unfold Func.isWrapper; first | (rw [if_pos (by decide +kernel)]; kernel_rfl) | (rw [if_neg (by decide +kernel)]; exact ⟨rfl, rfl⟩))
    (fun os started H enc _ => lifted os started H enc)

/-- ████ THE CARD ████ -/
theorem proved : Rows.FnReadArrayBinaryCardSaid :=
  Claim7.holds_tied_plain_at .later [] [.data, .sentinel, .pinned] true (true, "5eeab1a4edc70ea446e75cbd84de2e53eb93f88398978a7048b959b144bb6546") false over (fun _ h => by cases h) (by kernel_rfl) (fun _ h => by cases h) fnReadArrayBinary_row_tie rfl ⟨rfl, rfl⟩ (by kernel_rfl) rfl
    (fun f fn hf hfn => by
      obtain rfl : f = 11 := Option.some.inj ((show Tryd.prog.funcNamed "given.example/pub-saddlebag/laws.FnReadArrayBinary" = some 11 by kernel_rfl).symm.trans hf) |>.symm
      obtain rfl : fn = Tryd.f11 := (Option.some.inj (Tryd.func11.symm.trans hfn)).symm
      exact ⟨by kernel_rfl, fun j t ht => by
        rw [Tryd.params11] at ht
        have hm : t ∈ [28] := by simpa using Array.mem_of_getElem? ht
        have hall : ([28].all fun u => !Tryd.prog.wantsStandIn u) = true := by kernel_rfl
        exact (show Tryd.prog.wantsStandIn t = false by simpa using List.all_eq_true.1 hall t hm)⟩)
    (by kernel_rfl)
#print axioms proved
end Go.Proofs.YtbdfpnhcincimaaDoor.fnReadArrayBinary
