/-
  An abstract machine for Go functions (part 22): loops; from a contract to a law's walk.
-/
import Derived.Test.YtdfefemnlimeeaaDoorAx21
import Derived.LoopN
import Derived.Below
import Derived.DataReads
set_option linter.unusedVariables false
set_option linter.unusedSimpArgs false
namespace Go.Ax
open Go.RowKit

section
variable {P : Program} {G : Env}

theorem rounds_mono {c : Code} {Q Q' : Exit → Act → World → Prop} (hq : ∀ e a w, Q e a w → Q' e a w) : ∀ (k : Nat) (a : Act) (w : World), Code.rounds P c Q k a w → Code.rounds P c Q' k a w
  | 0, a, w, h => h
  | k + 1, a, w, h => by
    rw [rounds_succ] at h ⊢
    refine wp_mono h fun e a' w' he => ?_
    cases e <;> first | exact rounds_mono hq k a' w' he | exact hq _ _ _ he

/-- What a loop does in some rounds. -/
def LoopC (P : Program) (G : Env) (n : Nat) (c : Code) (vals : List (Nat × AV)) (H : List Row) (ex : AExit) (vals' : List (Nat × AV)) (H' : List Row) : Prop :=
  ∃ k, ∀ (O : Nat → Prop) (ρ : Lay) (a : Act) (w : World), Sim G ρ (hL H) O w → a.tmps.size = n → (∀ t av, (t, av) ∈ vals → VR ρ (hL H) O w av (a.tmps.getD t undef)) →
    Code.rounds P c (fun e a' w' => ∃ ρ' O', e = ex.toExit ∧ a'.tmps.size = n ∧ a'.defers = a.defers ∧
      (∀ t av, (t, av) ∈ vals' → VR ρ' (hL H') O' w' av (a'.tmps.getD t undef)) ∧ Sim G ρ' (hL H') O' w' ∧ Fr ρ (hL H) O w ρ' (hL H') O' w') k a w

theorem LoopC.code {n : Nat} {c : Code} {vals vals' : List (Nat × AV)} {H H' : List Row} {ex : AExit} (h : LoopC P G n c vals H ex vals' H') : CodeC P G n (.loop c) vals H ex vals' H' := by
  obtain ⟨k, h⟩ := h
  exact fun O ρ a w S hn hv => wp_loop_rounds k (h O ρ a w S hn hv)

theorem LoopC.exit {n : Nat} {c : Code} {vals vals' : List (Nat × AV)} {H H' : List Row} {ex : AExit} (h : CodeC P G n c vals H ex vals' H') (hex : ex ≠ .normal) : LoopC P G n c vals H ex vals' H' :=
  ⟨1, fun O ρ a w S hn hv => by
    rw [rounds_succ]
    refine wp_mono (h O ρ a w S hn hv) fun e a' w' hq => ?_
    obtain ⟨ρ', O', e1, hr⟩ := hq
    subst e1
    cases ex with
    | normal => exact absurd rfl hex
    | exit id => exact ⟨ρ', O', rfl, hr⟩
    | ret => exact ⟨ρ', O', rfl, hr⟩⟩

theorem LoopC.step {n : Nat} {c : Code} {vals vals1 vals' : List (Nat × AV)} {H H1 H' : List Row} {ex : AExit} (h : CodeC P G n c vals H .normal vals1 H1) (h' : LoopC P G n c vals1 H1 ex vals' H') :
    LoopC P G n c vals H ex vals' H' := by
  obtain ⟨k, h'⟩ := h'
  refine ⟨k + 1, fun O ρ a w S hn hv => ?_⟩
  rw [rounds_succ]
  refine wp_mono (h O ρ a w S hn hv) fun e a' w' hq => ?_
  obtain ⟨ρ1, O1, e1, n1, d1, v1, S1, F1⟩ := hq
  subst e1
  refine rounds_mono (fun e a'' w'' hq => ?_) k a' w' (h' O1 ρ1 a' w' S1 n1 v1)
  obtain ⟨ρ2, O2, e2, n2, d2, v2, S2, F2⟩ := hq
  exact ⟨ρ2, O2, e2, n2, d2.trans d1, v2, S2, F1.trans F2⟩

@[simp] theorem Le_self (a : AV) : Le a a ↔ True := ⟨fun _ => trivial, fun _ => Le.refl a⟩
@[simp] theorem Le_dead (a : AV) : Le a .dead ↔ True := ⟨fun _ => trivial, fun _ => Le.dead a⟩
@[simp] theorem RowLe_self (r : Row) : RowLe r r ↔ True := ⟨fun _ => trivial, fun _ => RowLe.refl r⟩

theorem leAll_refl : ∀ l : List AV, leAll l l
  | [] => trivial
  | a :: l => ⟨Le.refl a, leAll_refl l⟩

theorem ACalls_ev {f : FuncId} {fn : Func} {args : List AV} {H : List Row} {orc : List Orc} {r : AV × List Row × List Prop} (hm : P.follows .mixedOrders = true) (hf : P.funcs[f]? = some fn)
    (hn : (fn.name == "runtime.NumGoroutine") = false) (he : evFun P G fn args H orc = some r) (hC : AllP r.2.2) : ACalls P G f args H r.1 r.2.1 :=
  ACalls_of_evFun hm hf hn he hC

theorem CodeC_ev {n : Nat} {c : Code} {vals : List (Nat × AV)} {H : List Row} {orc : List Orc} {ts : List Nat} {r : AExit × List (Nat × AV) × List Row × List Prop} (hm : P.follows .mixedOrders = true)
    (he : evPiece P G n c vals H orc ts = some r) (hC : AllP r.2.2.2) : CodeC P G n c vals H r.1 r.2.1 r.2.2.1 :=
  CodeC_of_evPiece hm he hC

/-- A LAW's WALK from her contract. -/
theorem walk_of_ACalls {f : FuncId} {args : List AV} {vals : Array Value} {w : World} (h : ACalls P (fun _ => none) f args [] (.lit (.bool true)) []) (hl : vals.size = args.length)
    (hv : ∀ (j : Nat) a v, args[j]? = some a → vals[j]? = some v → DR (fun b => b < w.heap.size) w a v) :
    Calls P f vals w fun e w' => e = .returned (.bool true) ∧ Below w.heap.size w w' := by
  have := h.2 (fun b => b < w.heap.size) (fun _ => (0, 0)) w vals.toList ⟨fun id r hr => by simp [hL, nth] at hr, fun i j ri rj hi => by simp [hL, nth] at hi, fun id r hr => by simp [hL, nth] at hr, fun b hb => hb,
    fun g cs hg => by cases hg⟩ (by simpa using hl) (fun j a v ha hv' => .dr (hv j a v ha (by simpa using hv')))
  refine Calls.mono this fun e w' ⟨v, ρ', O', he, hvr, S, F⟩ => ?_
  subst he
  refine ⟨by rw [VR_lit hvr], ⟨F.os, F.tape, F.output, F.size, fun b hb => F.keep b hb fun id r hr => by simp [hL, nth] at hr⟩⟩

/-- Bytes that came in, by value. -/
theorem bytes_in {w : World} {a : Option Addr} {len cap : Nat} {zs : List Int} (h : (a = none ∧ len = 0 ∧ cap = 0 ∧ zs = []) ∨
    ∃ x, a = some x ∧ len ≤ cap ∧ cap ≤ maxLen ∧ zs.length = cap ∧ (∀ i, i < zs.length → w.cell? (x.add i) = some (.int .u8 (zs.getD i 0))) ∧ ∀ n ∈ zs, (Lit.int .u8 n).wf = true) :
    ∃ bs : List UInt8, bs.length = len ∧ len ≤ maxLen ∧ DR (fun b => b < w.heap.size) w (.bts bs) (.slice a len cap) := by
  rcases h with ⟨rfl, rfl, rfl, rfl⟩ | ⟨x, rfl, hl, hm, hz, hc, hwf⟩
  · exact ⟨[], rfl, Nat.zero_le _, .btsnil⟩
  · have hlen : ((zs.take len).map fun n => UInt8.ofNat n.toNat).length = len := by simp; omega
    refine ⟨(zs.take len).map fun n => UInt8.ofNat n.toNat, hlen, by omega, ?_⟩
    have hcell : ∀ i, i < len → w.cell? (x.add i) = some (.int .u8 (zs.getD i 0)) := fun i hi => hc i (by omega)
    conv => rhs; rw [← hlen]
    refine .bts (fun hp => ?_) (fun hp => ?_) (by omega) (Nat.le_trans hm (by decide)) fun i b hi => ?_
    · rw [hlen] at hp
      have := hcell 0 hp
      rw [show x.add 0 = x by simp [Addr.add]] at this
      exact World.cell?_spot this
    · rw [hlen] at hp
      have := hcell 0 hp
      rw [show x.add 0 = x by simp [Addr.add]] at this
      simp only [World.cell?] at this
      apply Classical.byContradiction
      intro hn
      have : w.heap[x.block]? = none := Array.getElem?_eq_none (by omega)
      simp_all
    · have hlt := (List.getElem?_eq_some_iff.1 hi).1
      rw [hlen] at hlt
      rw [hcell i hlt]
      simp only [List.getElem?_map, List.getElem?_take, if_pos hlt] at hi
      have hzi : zs[i]? = some zs[i] := List.getElem?_eq_some_iff.2 ⟨by omega, rfl⟩
      rw [hzi] at hi
      simp at hi
      subst hi
      have hw := hwf zs[i] (List.getElem_mem _)
      simp only [List.getD_eq_getElem?_getD, hzi, Option.getD_some]
      congr 2
      have hb : 0 ≤ zs[i] ∧ zs[i] < 256 := by
        simp [Lit.wf] at hw
        have h1 : IntKind.u8.min = 0 := by decide
        have h2 : IntKind.u8.max = 255 := by decide
        omega
      rw [UInt8.toNat_ofNat']
      omega
end
end Go.Ax
