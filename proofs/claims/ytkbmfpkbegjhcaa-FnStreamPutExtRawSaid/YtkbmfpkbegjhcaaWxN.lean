/-
  The statement of laws.FnStreamPutExtRaw holds: for every input (a number, a slice of values of MessagePack) the function returns true and leaves what was there as it was. No condition beyond the row's own.
-/
import Derived.Test.YtkbmfpkbegjhcaaRows
import Derived.WalkKit
import Derived.ProofKit
import Derived.OpenShut
import Derived.ShutString
import Derived.ChangeOld
import Derived.Below
import Derived.Test.YtkbmfpkbegjhcaaWxM
namespace Go.Proofs.Ytkbmfpkbegjhcaa.fnStreamPutExtRaw
open Go.ChangeShapes Go.WideShapes Go.ChangeAt Go.RowKit
open Go.ChangeMaps (open_string shut_string)
set_option linter.unusedVariables false

theorem own : ownKnob Try.prog.godebug = none := by kernel_rfl
theorem laidOut : laidOutB Try.prog = true := by kernel_rfl

theorem walk (a0 : Int) (n1 : Nat) (f1 : Nat → Go.Ax.PackT) (hw1 : ∀ i, i < n1 → (f1 i).wf) (x1 : Value) (w : World) (w0 : (Lit.int .i64 a0).wf = true) (hd1 : Go.Ax.DR (fun b => b < w.heap.size) w (.ro 5 n1 (fun i => Go.Ax.pcells (f1 i))) x1) :
    Calls Try.prog 4 #[.int .i64 a0, x1] w fun e w' => e = .returned (.bool true) ∧ Below w.heap.size w w' := by
  refine Go.Ax.walk_of_ACalls (Go.Ax.lawX n1 f1 a0 hw1) rfl fun j a v ha hv => ?_
  match j with
  | 0 => simp at ha hv; subst ha; subst hv; exact .lit _
  | 1 => simp at ha hv; subst ha; subst hv; exact hd1
  | j + 2 => simp at ha

/-! ### THE ROW's STEP: WRITTEN OUT: LEAVE IT -/
set_option maxRecDepth 100000 in
theorem lifted (os : Os) (started : os.Started) (H : Type) (enc : TypeId × Value → H) :
    ReturnsInHanded {} Try.checked os 4 .any (Rows.fnStreamPutExtRawSpec.pre6 enc Try.prog Try.f4 Rows.fnStreamPutExtRawRow.domain false) (Rows.fnStreamPutExtRawSpec.post enc Try.prog Try.f4 false true false false) := by
  refine returnsInHanded_of_change (C := Try.checked) own started (by kernel_rfl) Try.func4
    (ChangeSpec.witness6 (enc := enc) (C := Try.checked) false ⟨#[], #[.int .i64 0, .slice none 0 0], []⟩ 8 (by kernel_rfl) (by kernel_rfl) (by kernel_rfl) (by kernel_rfl)) ?_
  intro W base args ds gs before hval0 hW hcnd _
  have hval : ∀ (j : Nat) t v, Try.f4.params[j]? = some t → args[j]? = some v → Value.okWide Try.prog W .any base t v := hval0
  have hW' := hW
  obtain ⟨p, q, hA0, hV, rfl, hfz, hnd⟩ := hW
  have hA : DataW.TrodAll enc Try.prog W 0 (fun _ => true) true Try.f4.params.toList args.toList ds p := hA0
  rw [Try.params4] at hA hval
  obtain ⟨v0, vs0, d0, ds0, p0, q0, hargs, rfl, rfl, h0, r0⟩ := trodAll_cons hA
  obtain ⟨v1, vs1, d1, ds1, p1, q1, rfl, rfl, rfl, h1, r1⟩ := trodAll_cons r0
  obtain ⟨rfl, rfl, rfl⟩ := trodAll_nil r1
  obtain rfl : args = #[v0, v1] := by cases args; simp_all
  obtain ⟨rfl, rfl⟩ := trodVars_none hV
  obtain ⟨a0, rfl, rfl, rfl, w0⟩ := open_int Try.underlying3 (hval 0 3 v0 rfl rfl) h0
  obtain ⟨a1, len1, cap1, rfl⟩ := okWide_slice Try.underlying26 (hval 1 26 v1 rfl rfl)
  have k1 := h1
  have lt1 : ∀ x ∈ p1, x.block < W.heap.size := by obtain ⟨m, hm⟩ := k1; exact DataW.trod_lt m _ _ _ hm
  obtain ⟨n1, f1, hd1, hw1⟩ : ∃ (n1 : Nat) (f1 : Nat → Go.Ax.PackT), Go.Ax.DR (fun b => b < W.heap.size) W (.ro 5 n1 (fun i => Go.Ax.pcells (f1 i))) (.slice a1 len1 cap1) ∧ ∀ i, i < n1 → (f1 i).wf := by
    obtain ⟨fuel, hf⟩ := h1
    obtain ⟨n, f, hx, hw⟩ := Go.Ax.in_packs hf
    exact ⟨n, f, Go.Ax.DRs.get hx, hw⟩
  clear hA0 hval0
  refine (walk a0 n1 f1 hw1 _ W w0 hd1).mono fun e W' ⟨he, bel⟩ => ?_
  subst he
  exact ⟨_, rfl, _, _, _, [], _, [], hW', trodAll_mk1 (shut_bool Try.underlying4 _), (trodAll_cons_mk (shut_int Try.underlying3 w0) (trodAll_cons_mk (Below.trod laidOut (by kernel_rfl) (of_decide_eq_true (by kernel_rfl)) k1 bel lt1) trodAll_mk0)), rfl, bel.frame _, fun h => by cases h⟩

theorem over : Rows.fnStreamPutExtRawRow.holds Try.pinned (OpenSpec.ofChange Rows.fnStreamPutExtRawSpec) :=
  OpenClaim.holds_of_wide 4 Try.f4 rfl rfl rfl rfl rfl rfl rfl ⟨rfl, rfl, rfl, rfl, rfl⟩ rfl rfl rfl rfl rfl (by kernel_rfl) Try.func4 (by kernel_rfl)
    (of_decide_eq_true (by kernel_rfl)) (by unfold Func.isWrapper; first | (rw [if_pos (by decide +kernel)]; kernel_rfl) | (rw [if_neg (by decide +kernel)]; exact ⟨rfl, rfl⟩))
    (fun os started H enc _ => lifted os started H enc)

/-- ████ THE STATEMENT ████ -/
theorem proved : Rows.FnStreamPutExtRawSaid := over
#print axioms proved
end Go.Proofs.Ytkbmfpkbegjhcaa.fnStreamPutExtRaw
