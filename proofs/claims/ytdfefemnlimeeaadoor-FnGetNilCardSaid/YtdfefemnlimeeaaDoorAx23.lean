/-
  An abstract machine for Go functions (part 23): rows that nobody writes any more become data that are told by value.
-/
import Derived.Test.YtdfefemnlimeeaaDoorAx22
set_option linter.unusedVariables false
set_option linter.unusedSimpArgs false
namespace Go.Ax

def frzH (k : Nat) (r : Row) : Nat → List Row → List Row
  | _, [] => []
  | i, x :: l => (bif Nat.beq i k then .gone else frzRow k r x) :: frzH k r (i + 1) l

theorem frzH_get (k : Nat) (r : Row) : ∀ (l : List Row) (i j : Nat), (frzH k r i l)[j]? = (l[j]?).map fun x => if i + j = k then .gone else frzRow k r x
  | [], i, j => by simp [frzH]
  | x :: l, i, 0 => by
    simp only [frzH, List.getElem?_cons_zero, Option.map_some, Nat.add_zero]
    cases hb : Nat.beq i k with
    | true => simp [Nat.eq_of_beq_eq_true hb]
    | false =>
      have : i ≠ k := fun h => by subst h; simp at hb
      simp [this]
  | x :: l, i, j + 1 => by
    simp only [frzH, List.getElem?_cons_succ]
    rw [frzH_get k r l (i + 1) j, show i + 1 + j = i + (j + 1) by omega]

section
variable {P : Program} {G : Env} {ρ : Lay} {O : Nat → Prop} {w : World}

theorem freeze {H : List Row} {k : Nat} {r : Row} (S : Sim G ρ (hL H) O w) (hk : H[k]? = some r) (hc : canFrz r = true) :
    ∃ O1, Sim G ρ (hL (frzH k r 0 H)) O1 w ∧ Fr ρ (hL H) O w ρ (hL (frzH k r 0 H)) O1 w ∧ ∀ a v, VR ρ (hL H) O w a v → VR ρ (hL (frzH k r 0 H)) O1 w (a.frz k r) v :=
  freezeH S (by rw [hL_get]; exact hk) hc
    (fun j x hj => by
      rw [hL_get] at hj ⊢
      rw [frzH_get, hj]
      simp)
    (fun j x hj => by
      rw [hL_get, frzH_get] at hj
      obtain ⟨y, hy, he⟩ := Option.map_eq_some_iff.1 hj
      rw [Nat.zero_add] at he
      by_cases hjk : j = k
      · rw [if_pos hjk] at he; exact .inl ⟨hjk, he.symm⟩
      · rw [if_neg hjk] at he; exact .inr ⟨y, hjk, by rw [hL_get]; exact hy, he.symm⟩)

/-- A row among the results, by value. -/
theorem ACalls.freezeRet {f : FuncId} {args : List AV} {H H' : List Row} {ret : AV} (k : Nat) {r : Row} (h : ACalls P G f args H ret H') (hk : H'[k]? = some r) (hc : canFrz r = true) :
    ACalls P G f args H (ret.frz k r) (frzH k r 0 H') :=
  ⟨h.1, fun O ρ w vals S hl hv => (h.2 O ρ w vals S hl hv).mono fun e w' ⟨v, ρ', O', he, hr, S', F'⟩ => by
    obtain ⟨O1, S1, F1, V1⟩ := freeze S' hk hc
    exact ⟨v, ρ', O1, he, V1 _ _ hr, S1, F'.trans F1⟩⟩

/-- A row among the arguments, by value. -/
theorem ACalls.freezeArg {f : FuncId} {args : List AV} {H H' : List Row} {ret : AV} (k : Nat) {r : Row} (hk : H[k]? = some r) (hc : canFrz r = true) (h : ACalls P G f (args.map (AV.frz k r)) (frzH k r 0 H) ret H') :
    ACalls P G f args H ret H' :=
  ⟨h.1, fun O ρ w vals S hl hv => by
    obtain ⟨O1, S1, F1, V1⟩ := freeze S hk hc
    refine (h.2 O1 ρ w vals S1 (by simpa using hl) fun j a v ha hv' => ?_).mono fun e w' ⟨v, ρ', O', he, hr, S', F'⟩ => ⟨v, ρ', O', he, hr, S', F1.trans F'⟩
    rw [List.getElem?_map] at ha
    obtain ⟨a', ha', rfl⟩ := Option.map_eq_some_iff.1 ha
    exact V1 _ _ (hv j a' v ha' hv')⟩

/-- Only some of the rows are told of. -/
theorem ACalls.only {f : FuncId} {args : List AV} {H H' : List Row} {ret : AV} (L : List Nat) (h : ACalls P G f args H ret H') (hL' : finOk H.length L (hL H') = true) :
    ACalls P G f args H (ret.ren (idxIn L 0)) (outRows L (hL H') L) :=
  ⟨h.1, fun O ρ w vals S hl hv => (h.2 O ρ w vals S hl hv).mono fun e w' ⟨v, ρ', O', he, hr, S', F'⟩ => by
    obtain ⟨q1, q2, q3⟩ := fin_out rfl rfl hL' S' F'
    exact ⟨v, _, O', he, VR_ren q1 hr, q2, q3⟩⟩

/-- Other words for the same contract; more arguments. -/
theorem ACalls.le {f : FuncId} {args args' : List AV} {H H' H2 : List Row} {ret ret' : AV} (h : ACalls P G f args H ret H') (ha : leAll args' args) (hret : Le ret ret') (hH : H' = H2) : ACalls P G f args' H ret' H2 := by
  subst hH
  obtain ⟨l1, l2⟩ := leAll_spec ha
  refine ⟨h.1, fun O ρ w vals S hl hv => (h.2 O ρ w vals S (by omega) fun j a v ha hv' => ?_).mono fun e w' ⟨v, ρ', O', he, hr, S', F'⟩ => ⟨v, ρ', O', he, hret _ _ _ _ _ hr, S', F'⟩⟩
  have hlt : j < args'.length := by rw [l1]; exact (List.getElem?_eq_some_iff.1 ha).1
  have h0 : args'[j]? = some args'[j] := List.getElem?_eq_some_iff.2 ⟨hlt, rfl⟩
  exact l2 j _ a h0 ha _ _ _ _ _ (hv j _ v h0 hv')

end
end Go.Ax
