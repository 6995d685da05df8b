/-
  An abstract machine for Go functions (part 29): a deferred function that asks 'recover() != nil' and does nothing where nothing panics.
-/
import Derived.Test.YtdfefemnlimeeaaDoorAx28
import Derived.Recover
set_option linter.unusedVariables false
set_option linter.unusedSimpArgs false
namespace Go.Ax

/-- Is it such a function? -/
def idleShape (fn : Func) : Option (Array Oper × Nat × Nat × TypeId × TypeId) :=
  match fn.body with
  | some (.seq (.region _ ops false) (.cond (.tmp t) _ .skip)) =>
    match ops.toList with
    | [o1, o2] =>
      match o1.op, o1.guard, o1.dst, o2.op, o2.guard, o2.dst with
      | .call _, none, some d, .binOp .neq ty (.tmp d') (.const .nilIface) yt, none, some t' =>
        if d = d' ∧ t = t' ∧ d < fn.ntmps ∧ t < fn.ntmps ∧ fn.results = #[] then some (ops, d, t, ty, yt) else none
      | _, _, _, _, _, _ => none
    | _ => none
  | _ => none

theorem idle_of {P : Program} {f : FuncId} {fn : Func} {ops : Array Oper} {d t : Nat} {ty yt : TypeId} (hf : P.funcs[f]? = some fn) (hn : (fn.name == "runtime.NumGoroutine") = false) (hs : idleShape fn = some (ops, d, t, ty, yt))
    (h1 : ∀ ρ, pureV P (execOp ρ (ops.getD 0 default)) = some .recover)
    (h2 : pureV P (do eqGuard .neq ty (.tmp d) (.const .nilIface) .nilIface .nilIface; binOp .neq ty .nilIface .nilIface) = some (.bool false)) : IdleD P f := by
  unfold idleShape at hs
  split at hs
  · rename_i id ops' t' A hb
    split at hs
    · rename_i o1 o2 hops
      split at hs
      · rename_i c d0 ty' d' yt' t'' g1 g2 g3 g4 g5 g6
        split at hs
        · rename_i hc
          obtain ⟨rfl, rfl, hd, ht, hres⟩ := hc
          simp only [Option.some.injEq, Prod.mk.injEq] at hs
          obtain ⟨rfl, rfl, rfl, rfl, rfl⟩ := hs
          have hopsA : ops' = #[o1, o2] := by
            apply Array.ext'
            rw [hops]
          subst hopsA
          refine ⟨⟨fn, hf, hn, by simp [hb]⟩, fun vals w => ?_⟩
          refine callsD_of_wpS hf hb fun c0 cs hm => wpS_seq (wpS_region ?_)
          have r1 := fun ρ => pureV_run P _ _ (h1 ρ) w
          have hw1 : ∀ y, Region.wanted o1 y = true := fun y => by simp [Region.wanted, g2]
          have hw2 : ∀ y, Region.wanted o2 y = true := fun y => by simp [Region.wanted, g5]
          have hrec : recoverD (c0 :: cs) = none := by simp [recoverD, hm]
          have pg : ∀ (tm : Array Value) (k : Nat) (v : Value), k < tm.size → (tm.setIfInBounds k v).getD k undef = v := fun tm k v h => by
            rw [Array.getD_eq_getD_getElem?, Array.getElem?_setIfInBounds_self_of_lt h]
            rfl
          have hr2 : ∀ a : Act, a.eval (.tmp d0) = .nilIface → (execOp a.eval o2).run P w = .ok (.value (.bool false)) w := fun a ha => by
            have hx : execOp a.eval o2 = (do let x ← (do eqGuard .neq ty' (.tmp d0) (.const .nilIface) .nilIface .nilIface; binOp .neq ty' .nilIface .nilIface); pure (.value x)) := by
              unfold execOp
              rw [g4]
              simp only [ha]
              rfl
            rw [hx, Sem.run_bind, pureV_run P _ _ h2 w]
            rfl
          generalize htm : vals ++ Array.replicate (fn.ntmps - vals.size) undef = tm
          have hS : fn.ntmps ≤ tm.size := by rw [← htm]; simp; omega
          show wpOpsS P #[o1, o2] _ [0, 1] _ _ _
          have e1 : (Act.put { tmps := tm, defers := [] } o1.dst .nilIface).eval (.tmp d0) = .nilIface := by
            rw [g3]; exact pg tm d0 _ (Nat.lt_of_lt_of_le hd hS)
          have r1' := r1 (Act.eval { tmps := tm, defers := [] })
          rw [show (#[o1, o2] : Array Oper).getD 0 default = o1 from rfl] at r1'
          have r2' := hr2 _ e1
          have e2 : (Act.put (Act.put { tmps := tm, defers := [] } o1.dst .nilIface) o2.dst (.bool false)).eval (.tmp t') = .bool false := by
            rw [g3, g6]; refine pg _ t' _ ?_; show t' < (tm.setIfInBounds d0 .nilIface).size; rw [Array.size_setIfInBounds]; exact Nat.lt_of_lt_of_le ht hS
          simp only [wpOpsS]
          rw [show (#[o1, o2] : Array Oper)[0]? = some o1 from rfl]
          simp only [hw1, if_true]
          rw [r1']
          simp only [hrec]
          rw [show (#[o1, o2] : Array Oper)[1]? = some o2 from rfl]
          simp only [hw2, if_true]
          rw [r2']
          simp only [Oper.upon, Exit.thenS]
          refine wpS_cond (t := false) e2 ?_
          simp only [Bool.false_eq_true, if_false]
          refine wpS_of_wp (wp_skip ?_)
          refine ⟨by rw [g3, g6]; rfl, .returning, ?_, .tuple #[], ?_, ⟨_, rfl⟩, rfl, rfl, rfl, rfl, rfl⟩
          · cases c0; simp_all
          · simp [results, hres]
        · cases hs
      · cases hs
    · cases hs
  · cases hs

theorem idle_of2 {P : Program} {f : FuncId} {fn : Func} (hf : P.funcs[f]? = some fn) (hn : (fn.name == "runtime.NumGoroutine") = false) (hs : (idleShape fn).isSome = true)
    (h1 : ∀ ρ, pureV P (execOp ρ (((idleShape fn).get hs).1.getD 0 default)) = some .recover)
    (h2 : pureV P (do eqGuard .neq ((idleShape fn).get hs).2.2.2.1 (.tmp ((idleShape fn).get hs).2.1) (.const .nilIface) .nilIface .nilIface; binOp .neq ((idleShape fn).get hs).2.2.2.1 .nilIface .nilIface) = some (.bool false)) : IdleD P f :=
  idle_of (ops := ((idleShape fn).get hs).1) (d := ((idleShape fn).get hs).2.1) (t := ((idleShape fn).get hs).2.2.1) (ty := ((idleShape fn).get hs).2.2.2.1) (yt := ((idleShape fn).get hs).2.2.2.2) hf hn (Option.some_get hs).symm h1 h2
end Go.Ax
