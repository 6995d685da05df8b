/-
  The statement of laws.FnStreamPutBool holds: for every input (a number, a slice of bools) the function returns true and leaves what was there as it was. No condition beyond the row's own.
-/
import Derived.Test.YtmaofopbhlcgkaaRows
import Derived.WalkKit
import Derived.ProofKit
import Derived.OpenShut
import Derived.ShutString
import Derived.ChangeOld
import Derived.ChangeArms
import Derived.Below
import Derived.Test.YtmaofopbhlcgkaaSbC
namespace Go.Proofs.Ytmaofopbhlcgkaa.fnStreamPutBool
open Go.ChangeShapes Go.WideShapes Go.ChangeAt Go.RowKit
set_option linter.unusedVariables false

theorem own : ownKnob Try.prog.godebug = none := by kernel_rfl
theorem laidOut : laidOutB Try.prog = true := by kernel_rfl

/-- Bools that came in, by value. -/
theorem bools_in {H : Type} {enc : TypeId × Value → H} {w : World} {base : Nat} {spare : Nat → Bool} {held : Bool} {fuel : Nat} {a : Option Addr} {len cap : Nat} {x : DataW H × List MemPlace}
    (h : DataW.trod enc Try.prog w base spare held fuel 47 [.slice a len cap] = some x) :
    ∃ l : List Bool, Go.Ax.DR (fun b => b < w.heap.size) w (Go.Ax.roBo l) (.slice a len cap) := by
  rcases DataW.trod_slice Try.underlying47 h with ⟨h0, _⟩ | ⟨a', len', cap', elems, rest, n, _, hcs, _, hb, hl, hm, hlen, hel, hsp, hns⟩
  · simp at h0
    obtain ⟨rfl, rfl, rfl⟩ := h0
    exact ⟨[], .ronil⟩
  · simp at hcs
    obtain ⟨rfl, rfl, rfl⟩ := hcs
    have hc : Try.prog.cellsOf 4 = 1 := by kernel_rfl
    have each : ∀ i, i < len → ∃ b : Bool, w.cell? (a'.add i) = some (.bool b) := fun i hi => by
      have hy := hel i hi
      have hi' : i < elems.length := by omega
      rw [List.getElem?_eq_getElem hi', hc, Nat.mul_one, Option.bind_eq_some_iff] at hy
      obtain ⟨cs', hcs, hy'⟩ := hy
      obtain ⟨b, rfl, _⟩ := DataW.trod_bool Try.underlying4 hy'
      exact ⟨b, cell_of_cells?_one hcs⟩
    let f : Nat → Bool := fun i => match w.cell? (a'.add i) with | some (.bool b) => b | _ => false
    have hf : ∀ i, i < len → w.cell? (a'.add i) = some (.bool (f i)) := fun i hi => by
      obtain ⟨b, hb⟩ := each i hi
      simp only [f, hb]
    have hln : ((List.range len).map f).length = len := by simp
    refine ⟨(List.range len).map f, ?_⟩
    unfold Go.Ax.roBo
    rw [hln]
    refine .ro (fun i j => .bool (f i)) (fun hp => ?_) (fun hp => ?_) hl (Nat.le_trans hm (by decide)) (fun i hi => rfl) (fun i j c hi hj => ?_) (fun i j c hi hj => ?_)
    · have := hf 0 hp
      rw [show a'.add 0 = a' by simp [Addr.add]] at this
      exact World.cell?_spot this
    · have := hf 0 hp
      rw [show a'.add 0 = a' by simp [Addr.add]] at this
      simp only [World.cell?] at this
      apply Classical.byContradiction
      intro hn
      have : w.heap[a'.block]? = none := Array.getElem?_eq_none (by omega)
      simp_all
    · cases j with
      | zero => rw [Nat.mul_one, Nat.add_zero]; exact hf i hi
      | succ j => simp at hj
    · cases j with
      | zero => simp [hi] at hj; subst hj; exact .lit _
      | succ j => simp at hj

open Go.Ax in
theorem walk (a0 : Int) (a1 : Option Addr) (len1 cap1 : Nat) (w : World) (l : List Bool) (hd : DR (fun b => b < w.heap.size) w (roBo l) (.slice a1 len1 cap1)) :
    Calls Try.prog 8 #[.int .i64 a0, .slice a1 len1 cap1] w fun e w' => e = .returned (.bool true) ∧ Below w.heap.size w w' := by
  refine walk_of_ACalls (fnStreamPutBool a0 l fun _ _ => trivial) rfl fun j a v ha hv => ?_
  match j with
  | 0 => simp at ha hv; subst ha; subst hv; exact .lit _
  | 1 => simp at ha hv; subst ha; subst hv; exact hd
  | j + 2 => simp at ha

set_option maxRecDepth 100000 in
theorem lifted (os : Os) (started : os.Started) (H : Type) (enc : TypeId × Value → H) :
    ReturnsInHanded {} Try.checked os 8 .any (Rows.fnStreamPutBoolSpec.pre6 enc Try.prog Try.f8 Rows.fnStreamPutBoolRow.domain false) (Rows.fnStreamPutBoolSpec.post enc Try.prog Try.f8 false true false false) := by
  refine returnsInHanded_of_change (C := Try.checked) own started (by kernel_rfl) Try.func8
    (ChangeSpec.witness6 (enc := enc) (C := Try.checked) false ⟨#[], #[.int .i64 0, .slice none 0 0], []⟩ 8 (by kernel_rfl) (by kernel_rfl) (by kernel_rfl) (by kernel_rfl)) ?_
  intro W base args ds gs before hval0 hW hcnd _
  have hval : ∀ (j : Nat) t v, Try.f8.params[j]? = some t → args[j]? = some v → Value.okWide Try.prog W .any base t v := hval0
  have hW' := hW
  obtain ⟨p, q, hA0, hV, rfl, hfz, hnd⟩ := hW
  have hA : DataW.TrodAll enc Try.prog W 0 (fun _ => true) true Try.f8.params.toList args.toList ds p := hA0
  rw [Try.params8] at hA hval
  obtain ⟨v0, vs0, d0, ds0, p0, q0, hargs, rfl, rfl, h0, r0⟩ := trodAll_cons hA
  obtain ⟨v1, vs1, d1, ds1, p1, q1, rfl, rfl, rfl, h1, r1⟩ := trodAll_cons r0
  obtain ⟨rfl, rfl, rfl⟩ := trodAll_nil r1
  obtain rfl : args = #[v0, v1] := by cases args; simp_all
  obtain ⟨rfl, rfl⟩ := trodVars_none hV
  obtain ⟨a0, rfl, rfl, rfl, w0⟩ := open_int Try.underlying3 (hval 0 3 v0 rfl rfl) h0
  obtain ⟨a1, len1, cap1, rfl⟩ := okWide_slice Try.underlying47 (hval 1 47 v1 rfl rfl)
  have k1 := h1
  have lt1 : ∀ x ∈ p1, x.block < W.heap.size := by obtain ⟨m, hm⟩ := k1; exact DataW.trod_lt m _ _ _ hm
  obtain ⟨l, hd⟩ : ∃ l : List Bool, Go.Ax.DR (fun b => b < W.heap.size) W (Go.Ax.roBo l) (.slice a1 len1 cap1) := by
    obtain ⟨fuel, hf⟩ := h1
    exact bools_in hf
  clear hA0 hval0
  refine (walk a0 a1 len1 cap1 W l hd).mono fun e W' ⟨he, bel⟩ => ?_
  subst he
  exact ⟨_, rfl, _, _, _, [], _, [], hW', trodAll_mk1 (shut_bool Try.underlying4 _), (trodAll_cons_mk (shut_int Try.underlying3 w0) (trodAll_cons_mk (Below.trod laidOut (by kernel_rfl) (of_decide_eq_true (by kernel_rfl)) k1 bel lt1) trodAll_mk0)), rfl, bel.frame _, fun h => by cases h⟩

theorem over : Rows.fnStreamPutBoolRow.holds Try.pinned (OpenSpec.ofChange Rows.fnStreamPutBoolSpec) :=
  OpenClaim.holds_of_wide 8 Try.f8 rfl rfl rfl rfl rfl rfl rfl ⟨rfl, rfl, rfl, rfl, rfl⟩ rfl rfl rfl rfl rfl (by kernel_rfl) Try.func8 (by kernel_rfl)
    (of_decide_eq_true (by kernel_rfl)) (by unfold Func.isWrapper; first | (rw [if_pos (by decide +kernel)]; kernel_rfl) | (rw [if_neg (by decide +kernel)]; exact ⟨rfl, rfl⟩))
    (fun os started H enc _ => lifted os started H enc)

/-- ████ THE STATEMENT ████ -/
theorem proved : Rows.FnStreamPutBoolSaid := over
#print axioms proved
end Go.Proofs.Ytmaofopbhlcgkaa.fnStreamPutBool
