/-
  An abstract machine for Go functions, parts 21 to 33.
-/
import Derived.Test.YtkbmfpkbegjhcaaAx20
import Derived.LoopN
import Derived.Below
import Derived.DataReads
import Derived.Recover
import Derived.ChangeArms
import Derived.DataElems
import Derived.RowKit
/-
  An abstract machine for Go functions (part 21): pieces of code; whole functions.
-/
set_option linter.unusedVariables false
set_option linter.unusedSimpArgs false
namespace Go.Ax

section
variable {P : Program} {G : Env}

theorem rangeB_spec : ∀ {n k : Nat} {L : List Nat}, rangeB k n L = true → ∀ i, i < n → L[i]? = some (k + i)
  | 0, k, L, _, i, hi => by omega
  | n + 1, k, [], h, i, hi => by simp [rangeB] at h
  | n + 1, k, x :: L, h, i, hi => by
    simp only [rangeB] at h
    cases hb : Nat.beq x k with
    | false => simp [hb] at h
    | true =>
      simp only [hb, cond_true] at h
      cases i with
      | zero => simp [Nat.eq_of_beq_eq_true hb]
      | succ i => rw [List.getElem?_cons_succ, rangeB_spec h i (by omega)]; congr 1; omega

theorem inHeap_spec {h : Heap} : ∀ {L : List Nat}, inHeap h L = true → ∀ id ∈ L, ∃ r, h id = some r
  | [], _, id, hm => by cases hm
  | x :: L, hi, id, hm => by
    unfold inHeap at hi
    split at hi
    · rename_i r hr
      rcases List.mem_cons.1 hm with rfl | hm
      · exact ⟨r, hr⟩
      · exact inHeap_spec hi id hm
    · cases hi

theorem outRows_get {L : List Nat} {h : Heap} : ∀ (M : List Nat) (k : Nat), (outRows L h M)[k]? = (M[k]?).map fun id => ((h id).getD .gone).ren (idxIn L 0)
  | [], k => by simp [outRows]
  | id :: M, 0 => by simp [outRows]
  | id :: M, k + 1 => by simpa [outRows] using outRows_get M k

theorem outSlots_mem {L : List Nat} {tm : Nat → AV} : ∀ {ts : List Nat} {t : Nat} {a : AV}, (t, a) ∈ outSlots L tm ts → a = (tm t).ren (idxIn L 0)
  | [], t, a, h => by simp [outSlots] at h
  | u :: ts, t, a, h => by
    simp only [outSlots, List.mem_cons, Prod.mk.injEq] at h
    rcases h with ⟨rfl, rfl⟩ | h
    · rfl
    · exact outSlots_mem h

/-- The rows that come out, as those outside number them. -/
theorem fin_out {k : Nat} {L : List Nat} {h h0 : Heap} {ρ ρ0 : Lay} {O O0 : Nat → Prop} {w w0 : World} {H : List Row} (hk : H.length = k) (hh : h0 = hL H) (hf : finOk k L h = true) (S : Sim G ρ h O w)
    (F : Fr ρ0 h0 O0 w0 ρ h O w) :
    RenOk (idxIn L 0) ρ h (layOf ρ L) (hL (outRows L h L)) ∧ Sim G (layOf ρ L) (hL (outRows L h L)) O w ∧ Fr ρ0 h0 O0 w0 (layOf ρ L) (hL (outRows L h L)) O w := by
  simp only [finOk, Bool.and_eq_true] at hf
  obtain ⟨⟨f1, f2⟩, f3⟩ := hf
  have hnd := nodupB_spec f2
  have hget : ∀ j r, hL (outRows L h L) j = some r → ∃ id r0, L[j]? = some id ∧ h id = some r0 ∧ r = r0.ren (idxIn L 0) := fun j r hj => by
    rw [hL_get, outRows_get] at hj
    obtain ⟨id, hid, he⟩ := Option.map_eq_some_iff.1 hj
    obtain ⟨r0, hr0⟩ := inHeap_spec f3 id (List.mem_of_getElem? hid)
    refine ⟨id, r0, hid, hr0, ?_⟩
    rw [hr0] at he
    exact he.symm
  have hput : ∀ j id r0, L[j]? = some id → h id = some r0 → hL (outRows L h L) j = some (r0.ren (idxIn L 0)) := fun j id r0 hj hr0 => by
    rw [hL_get, outRows_get, hj]
    simp [hr0]
  have R : RenOk (idxIn L 0) ρ h (layOf ρ L) (hL (outRows L h L)) := ⟨fun id j r hj hid => by
    obtain ⟨_, h2⟩ := idxIn_spec hj
    rw [Nat.sub_zero] at h2
    refine ⟨_, hput j id r h2 hid, fun hl => ?_⟩
    rw [Row.ren_live] at hl
    exact ⟨hl, layOf_get h2, Row.ren_isMap _ _, Row.ren_sz _ _, by rw [Row.ren_len]; exact Nat.le_refl _⟩⟩
  refine ⟨R, ⟨fun j r hj => ?_, fun i j ri rj hi hj hli hlj he => ?_, fun j r hj hl => ?_, S.lt, S.glob⟩, ⟨F.os, F.tape, F.output, F.size, F.keep, fun id r hr => ?_, fun j r hj hl => ?_, F.old, F.oldnew⟩⟩
  · obtain ⟨id, r0, g1, g2, rfl⟩ := hget j r hj
    exact RowR_ren R (fun _ => layOf_get g1) (S.rows id r0 g2)
  · obtain ⟨id, r0, g1, g2, rfl⟩ := hget i ri hi
    obtain ⟨id', r0', g1', g2', rfl⟩ := hget j rj hj
    rw [Row.ren_live] at hli hlj
    rw [layOf_get g1, layOf_get g1'] at he
    have := S.inj id id' r0 r0' g2 g2' hli hlj he
    subst this
    exact hnd i j id g1 g1'
  · obtain ⟨id, r0, g1, g2, rfl⟩ := hget j r hj
    rw [Row.ren_live] at hl
    rw [layOf_get g1]
    exact S.notO id r0 g2 hl
  · obtain ⟨r', hr', hx⟩ := F.dom id r hr
    have hlt : id < k := by
      subst hh
      rw [hL_get] at hr
      rw [← hk]
      exact (List.getElem?_eq_some_iff.1 hr).1
    have hid := rangeB_spec f1 id hlt
    rw [Nat.zero_add] at hid
    refine ⟨_, hput id id r' hid hr', fun hl => ?_⟩
    rw [Row.ren_live] at hl
    obtain ⟨a1, a2, a3, a4, a5, a6⟩ := hx hl
    exact ⟨a1, by rw [layOf_get hid]; exact a2, by rw [Row.ren_isMap]; exact a3, by rw [Row.ren_sz]; exact a4, by rw [Row.ren_len]; exact a5, a6⟩
  · obtain ⟨id, r0, g1, g2, rfl⟩ := hget j r hj
    rw [Row.ren_live] at hl
    rw [layOf_get g1]
    exact F.own id r0 g2 hl

theorem hL_none {H : List Row} : ∀ i, H.length ≤ i → hL H i = none := fun i hi => by rw [hL_get]; exact List.getElem?_eq_none hi

/-- A PIECE OF CODE. -/
theorem CodeC_of_evPiece {n : Nat} {c : Code} {vals vals' : List (Nat × AV)} {H H' : List Row} {orc : List Orc} {ts : List Nat} {ex : AExit} {C : List Prop} (hm : P.follows .mixedOrders = true)
    (he : evPiece P G n c vals H orc ts = some (ex, vals', H', C)) (hC : AllP C) : CodeC P G n c vals H ex vals' H' := by
  intro O ρ a w S hn hv
  unfold evPiece at he
  split at he
  · rename_i ex' s h1
    split at he
    · rename_i L h2 h3
      cases hb : finOk H.length L s.h with
      | false => simp [hb] at he
      | true =>
        simp only [hb, cond_true, Option.some.injEq, Prod.mk.injEq] at he
        obtain ⟨rfl, rfl, rfl, rfl⟩ := he
        have I : Inv G a.defers ρ O (startC n vals H orc) a w := ⟨S, ⟨hn, fun t => by
          show VR ρ (hL H) O w (slotOf vals t) _
          unfold slotOf
          cases hx : assocT vals t with
          | none => exact .dr (.dead _)
          | some av => exact hv t av (assocT_mem hx)⟩, rfl⟩
        refine wp_mono (evCode_sound hm c _ _ _ ρ O a w h1 hC hL_none I) fun e a' w' ⟨e1, ρ', O', I', F'⟩ => ?_
        have hst := evCode_stat c _ _ _ h1
        obtain ⟨q1, q2, q3⟩ := fin_out rfl rfl hb I'.sim F'
        have hd := I'.defs
        rw [h3] at hd
        refine ⟨_, O', e1, by rw [I'.slots.1]; exact hst.2.1, hd, fun t av hm => ?_, q2, q3⟩
        rw [outSlots_mem hm]
        exact VR_ren q1 (I'.slots.2 t)
    · cases he
  · cases he

theorem argT_get : ∀ (args : List AV) (t : Nat), argT args t = (args[t]?).getD (.lit undef)
  | [], t => by simp [argT]
  | a :: l, 0 => by simp [argT]
  | a :: l, t + 1 => by simpa [argT] using argT_get l t

theorem loadAt_var {t : TypeId} {x y : Value} {w : World} (h : (Instr.loadAt t x).run P w = .ok y w) : ∃ ad, x = .pointer (some ad) ∧ (loadVar t ad).run P w = .ok y w := by
  have hst : ∀ m, (do let a ← (stuck m : Sem Addr); loadVar t a : Sem Value).run P w ≠ .ok y w := fun m e => by simp [stuck, Sem.run] at e
  cases x with
  | pointer p =>
    cases p with
    | none => exact absurd h (hst _)
    | some ad => exact ⟨ad, rfl, by simpa [Instr.loadAt, Instr.sureAddr] using h⟩
  | _ => exact absurd h (hst _)

theorem resE_sound {ρ : Lay} {h : Heap} {O : Nat → Prop} {w : World} {n : Nat} {tm : Nat → AV} {a : Act} (S : Sim G ρ h O w) (hs : Slots ρ h O w n tm a) : ∀ (l : List ResultVar) (vs : List AV) (c : List Prop),
    resE P G tm h l = some (vs, c) → AllP c → ∃ us : List Value, Reads ρ h O w vs us ∧
      (l.mapM (m := Sem) fun | .tmp t => pure (a.tmps.getD t undef) | .cell b t => do loadVar t (← asAddr (a.tmps.getD b undef))).run P w = .ok us w
  | [], vs, c, he, hC => by
    simp [resE] at he
    obtain ⟨rfl, rfl⟩ := he
    exact ⟨[], ⟨rfl, fun j a x h => by simp at h⟩, rfl⟩
  | .tmp t :: l, vs, c, he, hC => by
    simp only [resE] at he
    split at he
    · rename_i vs' c' h1
      simp only [Option.some.injEq, Prod.mk.injEq] at he
      obtain ⟨rfl, rfl⟩ := he
      obtain ⟨us, u1, u2⟩ := resE_sound S hs l vs' c' h1 hC
      refine ⟨a.tmps.getD t undef :: us, Reads.append (as := [tm t]) (vs := [a.tmps.getD t undef]) ⟨rfl, fun j b x hb hx => ?_⟩ u1, ?_⟩
      · cases j with
        | zero => simp only [List.getElem?_cons_zero, Option.some.injEq] at hb hx; subst hb; subst hx; exact hs.2 t
        | succ j => simp at hb
      · rw [List.mapM_cons]
        simp only [pure_bind, Sem.run_bind, u2, Result.andThen_ok, Sem.run_pure]
    · cases he
  | .cell b t :: l, vs, c, he, hC => by
    simp only [resE] at he
    split at he
    · rename_i v c1 vs' c' h0 h1
      simp only [Option.some.injEq, Prod.mk.injEq] at he
      obtain ⟨rfl, rfl⟩ := he
      obtain ⟨hC1, hC2⟩ := AllP_append.1 hC
      obtain ⟨us, u1, u2⟩ := resE_sound S hs l vs' c' h1 hC2
      obtain ⟨y, y1, y2⟩ := load_sound (P := P) S (fun id r h => h) (hs.2 b) h0 hC1
      obtain ⟨ad, hx, hl⟩ := loadAt_var y1
      refine ⟨y :: us, Reads.append (as := [v]) (vs := [y]) ⟨rfl, fun j b x hb hx => ?_⟩ u1, ?_⟩
      · cases j with
        | zero => simp only [List.getElem?_cons_zero, Option.some.injEq] at hb hx; subst hb; subst hx; exact y2
        | succ j => simp at hb
      · rw [List.mapM_cons]
        have hasa : asAddr (a.tmps.getD b undef) = pure ad := by rw [hx]; rfl
        simp only [hasa, pure_bind, Sem.run_bind, hl, u2, Result.andThen_ok, Sem.run_pure]
    · cases he

theorem results_sound {ρ : Lay} {h : Heap} {O : Nat → Prop} {w : World} {n : Nat} {tm : Nat → AV} {a : Act} {fn : Func} {vs : List AV} {c : List Prop} (S : Sim G ρ h O w) (hs : Slots ρ h O w n tm a)
    (he : resE P G tm h fn.results.toList = some (vs, c)) (hC : AllP c) : ∃ v, (results fn a.tmps).run P w = .ok v w ∧ VR ρ h O w (oneOr vs) v := by
  obtain ⟨us, ⟨u0, u1⟩, u2⟩ := resE_sound S hs _ _ _ he hC
  refine ⟨if h : us.toArray.size = 1 then us.toArray[0] else .tuple us.toArray, ?_, ?_⟩
  · unfold results
    rw [Array.mapM_eq_mapM_toList]
    simp only [map_eq_pure_bind, bind_assoc, pure_bind, Sem.run_bind, Sem.run_pure]
    exact (congrArg (fun r => Result.andThen r (fun (a : List Value) w' => Result.ok (if h : a.toArray.size = 1 then a.toArray[0] else Value.tuple a.toArray) w')) u2).trans rfl
  · match vs, us, u0, u1 with
    | [v], [u], _, u1 => exact u1 0 v u rfl rfl
    | [], [], _, u1 => exact .tup rfl fun j a x h => by simp at h
    | v1 :: v2 :: vs, x1 :: x2 :: us, u0, u1 =>
      have : ¬ (x1 :: x2 :: us).toArray.size = 1 := by simp
      rw [dif_neg this]
      exact .tup (by simpa using u0.symm) fun j a x ha hx => u1 j a x ha (by simpa using hx)

/-- A DEFERRED CALL LEAVES THE RESULTS ALONE. -/
theorem leaves_end {fn : Func} {s : St} {a : Act} {ρ : Lay} {O : Nat → Prop} {w : World} {vs : List AV} {c : List Prop} {R : Ending → World → Prop} (I : Inv G [] ρ O s a w) (hi : ∀ p ∈ s.df, IdleD P p.1)
    (he : resE P G s.tm s.h fn.results.toList = some (vs, c)) (hC : AllP c)
    (hR : ∀ v w', Sim G ρ s.h O w' → Fr ρ s.h O w ρ s.h O w' → VR ρ s.h O w' (oneOr vs) v → R (.returned v) w') : Leaves P fn a.tmps R a.defers .returning w := by
  have all : ∀ w' : World, w'.heap = w.heap → w'.os = w.os → w'.tape = w.tape → w'.output = w.output → ∃ v, (results fn a.tmps).run P w' = .ok v w' ∧ R (.returned v) w' := fun w' m1 m2 m3 m4 => by
    have S' := I.sim.same m1 m2 m3 m4
    have F' := Fr.same (ρ := ρ) (h := s.h) (O := O) m1 m2 m3 m4
    obtain ⟨v, v1, v2⟩ := results_sound (P := P) S' (I.slots.mono I.sim F') he hC
    exact ⟨v, v1, hR v w' S' F' v2⟩
  have go : ∀ (df : List (FuncId × List AV)) (ds : List Deferred) (w' : World), DefR [] df ds → (∀ p ∈ df, IdleD P p.1) → w'.heap = w.heap → w'.os = w.os → w'.tape = w.tape → w'.output = w.output →
      Leaves P fn a.tmps R ds .returning w' := by
    intro df
    induction df with
    | nil =>
      intro ds w' hd hi m1 m2 m3 m4
      have : ds = [] := hd
      subst this
      exact all w' m1 m2 m3 m4
    | cons p df ih =>
      intro ds w' hd hi m1 m2 m3 m4
      cases ds with
      | nil => exact hd.elim
      | cons d ds =>
      obtain ⟨⟨cap, htar⟩, hd⟩ := hd
      obtain ⟨⟨fn', k1, k2, k3⟩, hcall⟩ := hi p (by simp)
      refine ⟨by simp, .func p.1, cap, p.1, d.args ++ cap, htar, by rw [htar]; exact run_callFunc_body k1 k2 k3, ?_⟩
      intro c cs hc
      obtain ⟨e, u', w'', fr, ⟨⟨v, he⟩, hu, n1, n2, n3, n4⟩, hcomes, hk, hg⟩ := hcall (d.args ++ cap) w' c cs hc
      subst he; subst hu
      exact ⟨_, _, w'', fr, ih ds w'' hd (fun q hq => hi q (List.mem_cons_of_mem _ hq)) (n1.trans m1) (n2.trans m2) (n3.trans m3) (n4.trans m4), hcomes, hk, hg⟩
  exact go _ _ w I.defs hi rfl rfl rfl rfl

/-- A WHOLE FUNCTION. -/
theorem ACalls_of_evFun {f : FuncId} {fn : Func} {args : List AV} {H H' : List Row} {orc : List Orc} {ret : AV} {C : List Prop} (hm : P.follows .mixedOrders = true) (hf : P.funcs[f]? = some fn)
    (hn : (fn.name == "runtime.NumGoroutine") = false) (he : evFun P G fn args H orc = some (ret, H', C)) (hC : AllP C) : ACalls P G f args H ret H' := by
  unfold evFun at he
  split at he
  · cases he
  · rename_i body hbody
    refine ⟨⟨fn, hf, hn, by rw [hbody]; rfl⟩, fun O ρ w vals S hl hv => ?_⟩
    cases hb : Nat.ble args.length fn.ntmps with
    | false => simp [hb] at he
    | true =>
      simp only [hb, cond_true] at he
      have hb' := Nat.le_of_ble_eq_true hb
      split at he
      · rename_i ex s h1
        have fin : ∀ L, (∀ id, ex ≠ .exit id) → (match resE P G s.tm s.h fn.results.toList with
            | some (vs, c) => bif finOk H.length L s.h then some ((oneOr vs).ren (idxIn L 0), outRows L s.h L, c ++ s.c) else none
            | none => none) = some (ret, H', C) → Calls P f vals.toArray w fun e w' => ∃ v ρ' O', e = .returned v ∧ VR ρ' (hL H') O' w' ret v ∧ Sim G ρ' (hL H') O' w' ∧ Fr ρ (hL H) O w ρ' (hL H') O' w' := fun L hex he => by
          split at he
          · rename_i vs c hres
            cases hfo : finOk H.length L s.h with
            | false => simp [hfo] at he
            | true =>
              simp only [hfo, cond_true, Option.some.injEq, Prod.mk.injEq] at he
              obtain ⟨rfl, rfl, rfl⟩ := he
              obtain ⟨hC1, hC2⟩ := AllP_append.1 hC
              have hst := evCode_stat body _ _ _ h1
              have hidle := (hst.2.2 hC2).2 (fun p hp => by simp [startF] at hp)
              have hgetd : ∀ t, (vals.toArray ++ Array.replicate (fn.ntmps - vals.toArray.size) undef).getD t undef = (vals[t]?).getD undef := fun t => by
                rw [Array.getD_eq_getD_getElem?, Array.getElem?_append]
                simp only [List.size_toArray, List.getElem?_toArray, Array.getElem?_replicate]
                by_cases ht : t < vals.length
                · simp [ht]
                · simp only [ht, if_false]
                  rw [List.getElem?_eq_none (by omega)]
                  split <;> rfl
              have I : Inv G [] ρ O (startF fn.ntmps args H orc) { tmps := vals.toArray ++ Array.replicate (fn.ntmps - vals.toArray.size) undef, defers := [] } w := ⟨S, ⟨by show (vals.toArray ++ Array.replicate (fn.ntmps - vals.toArray.size) undef).size = fn.ntmps; simp; omega, fun t => by
                show VR ρ (hL H) O w (argT args t) _
                rw [argT_get, hgetd]
                by_cases ht : t < args.length
                · have h1 : args[t]? = some args[t] := List.getElem?_eq_some_iff.2 ⟨ht, rfl⟩
                  have h2 : vals[t]? = some (vals[t]'(by omega)) := List.getElem?_eq_some_iff.2 ⟨by omega, rfl⟩
                  rw [h1, h2]
                  exact hv t _ _ h1 h2
                · rw [List.getElem?_eq_none (by omega), List.getElem?_eq_none (by omega)]
                  exact VR.ofLit _⟩, rfl⟩
              refine calls_of_wp_defers hf hbody (wp_mono (evCode_sound hm body _ _ _ ρ O _ w h1 hC2 hL_none I) fun e a' w' ⟨e1, ρ', O', I', F'⟩ => ?_)
              have goal : Leaves P fn a'.tmps (fun e w' => ∃ v ρ' O', e = .returned v ∧ VR ρ' (hL (outRows L s.h L)) O' w' ((oneOr vs).ren (idxIn L 0)) v ∧ Sim G ρ' (hL (outRows L s.h L)) O' w' ∧
                  Fr ρ (hL H) O w ρ' (hL (outRows L s.h L)) O' w') a'.defers .returning w' := leaves_end I' hidle hres hC1 fun v w'' S'' F'' hv'' => by
                obtain ⟨q1, q2, q3⟩ := fin_out rfl rfl hfo S'' (F'.trans F'')
                exact ⟨v, _, O', rfl, VR_ren q1 hv'', q2, q3⟩
              subst e1
              cases ex with
              | normal => exact goal
              | ret => exact goal
              | exit id => exact absurd rfl (hex id)
          · cases he
        cases ex with
        | exit id => simp at he
        | normal =>
          split at he
          · rename_i hbad; cases hbad
          · exact fin _ (fun id h => by cases h) he
          · cases he
        | ret =>
          split at he
          · rename_i hbad; cases hbad
          · exact fin _ (fun id h => by cases h) he
          · cases he
      · cases he

theorem Le.refl (a : AV) : Le a a := fun _ _ _ _ _ h => h
theorem Le.dead (a : AV) : Le a .dead := fun _ _ _ _ v _ => .dr (.dead v)
theorem RowLe.refl (r : Row) : RowLe r r := ⟨rfl, rfl, rfl, rfl, rfl, rfl, rfl, fun j a a' h h' => by rw [h] at h'; cases h'; exact Le.refl a⟩

end
end Go.Ax
/-
  An abstract machine for Go functions (part 22): loops; from a contract to a law's walk.
-/
set_option linter.unusedVariables false
set_option linter.unusedSimpArgs false
namespace Go.Ax
open Go.RowKit

section
variable {P : Program} {G : Env}

theorem rounds_mono {c : Code} {Q Q' : Exit → Act → World → Prop} (hq : ∀ e a w, Q e a w → Q' e a w) : ∀ (k : Nat) (a : Act) (w : World), Code.rounds P c Q k a w → Code.rounds P c Q' k a w
  | 0, a, w, h => h
  | k + 1, a, w, h => by
    rw [rounds_succ] at h ⊢
    refine wp_mono h fun e a' w' he => ?_
    cases e <;> first | exact rounds_mono hq k a' w' he | exact hq _ _ _ he

/-- What a loop does in some rounds. -/
def LoopC (P : Program) (G : Env) (n : Nat) (c : Code) (vals : List (Nat × AV)) (H : List Row) (ex : AExit) (vals' : List (Nat × AV)) (H' : List Row) : Prop :=
  ∃ k, ∀ (O : Nat → Prop) (ρ : Lay) (a : Act) (w : World), Sim G ρ (hL H) O w → a.tmps.size = n → (∀ t av, (t, av) ∈ vals → VR ρ (hL H) O w av (a.tmps.getD t undef)) →
    Code.rounds P c (fun e a' w' => ∃ ρ' O', e = ex.toExit ∧ a'.tmps.size = n ∧ a'.defers = a.defers ∧
      (∀ t av, (t, av) ∈ vals' → VR ρ' (hL H') O' w' av (a'.tmps.getD t undef)) ∧ Sim G ρ' (hL H') O' w' ∧ Fr ρ (hL H) O w ρ' (hL H') O' w') k a w

theorem LoopC.code {n : Nat} {c : Code} {vals vals' : List (Nat × AV)} {H H' : List Row} {ex : AExit} (h : LoopC P G n c vals H ex vals' H') : CodeC P G n (.loop c) vals H ex vals' H' := by
  obtain ⟨k, h⟩ := h
  exact fun O ρ a w S hn hv => wp_loop_rounds k (h O ρ a w S hn hv)

theorem LoopC.exit {n : Nat} {c : Code} {vals vals' : List (Nat × AV)} {H H' : List Row} {ex : AExit} (h : CodeC P G n c vals H ex vals' H') (hex : ex ≠ .normal) : LoopC P G n c vals H ex vals' H' :=
  ⟨1, fun O ρ a w S hn hv => by
    rw [rounds_succ]
    refine wp_mono (h O ρ a w S hn hv) fun e a' w' hq => ?_
    obtain ⟨ρ', O', e1, hr⟩ := hq
    subst e1
    cases ex with
    | normal => exact absurd rfl hex
    | exit id => exact ⟨ρ', O', rfl, hr⟩
    | ret => exact ⟨ρ', O', rfl, hr⟩⟩

theorem LoopC.step {n : Nat} {c : Code} {vals vals1 vals' : List (Nat × AV)} {H H1 H' : List Row} {ex : AExit} (h : CodeC P G n c vals H .normal vals1 H1) (h' : LoopC P G n c vals1 H1 ex vals' H') :
    LoopC P G n c vals H ex vals' H' := by
  obtain ⟨k, h'⟩ := h'
  refine ⟨k + 1, fun O ρ a w S hn hv => ?_⟩
  rw [rounds_succ]
  refine wp_mono (h O ρ a w S hn hv) fun e a' w' hq => ?_
  obtain ⟨ρ1, O1, e1, n1, d1, v1, S1, F1⟩ := hq
  subst e1
  refine rounds_mono (fun e a'' w'' hq => ?_) k a' w' (h' O1 ρ1 a' w' S1 n1 v1)
  obtain ⟨ρ2, O2, e2, n2, d2, v2, S2, F2⟩ := hq
  exact ⟨ρ2, O2, e2, n2, d2.trans d1, v2, S2, F1.trans F2⟩

@[simp] theorem Le_self (a : AV) : Le a a ↔ True := ⟨fun _ => trivial, fun _ => Le.refl a⟩
@[simp] theorem Le_dead (a : AV) : Le a .dead ↔ True := ⟨fun _ => trivial, fun _ => Le.dead a⟩
@[simp] theorem RowLe_self (r : Row) : RowLe r r ↔ True := ⟨fun _ => trivial, fun _ => RowLe.refl r⟩

theorem leAll_refl : ∀ l : List AV, leAll l l
  | [] => trivial
  | a :: l => ⟨Le.refl a, leAll_refl l⟩

theorem ACalls_ev {f : FuncId} {fn : Func} {args : List AV} {H : List Row} {orc : List Orc} {r : AV × List Row × List Prop} (hm : P.follows .mixedOrders = true) (hf : P.funcs[f]? = some fn)
    (hn : (fn.name == "runtime.NumGoroutine") = false) (he : evFun P G fn args H orc = some r) (hC : AllP r.2.2) : ACalls P G f args H r.1 r.2.1 :=
  ACalls_of_evFun hm hf hn he hC

theorem CodeC_ev {n : Nat} {c : Code} {vals : List (Nat × AV)} {H : List Row} {orc : List Orc} {ts : List Nat} {r : AExit × List (Nat × AV) × List Row × List Prop} (hm : P.follows .mixedOrders = true)
    (he : evPiece P G n c vals H orc ts = some r) (hC : AllP r.2.2.2) : CodeC P G n c vals H r.1 r.2.1 r.2.2.1 :=
  CodeC_of_evPiece hm he hC

/-- A LAW's WALK from her contract. -/
theorem walk_of_ACalls {f : FuncId} {args : List AV} {vals : Array Value} {w : World} (h : ACalls P (fun _ => none) f args [] (.lit (.bool true)) []) (hl : vals.size = args.length)
    (hv : ∀ (j : Nat) a v, args[j]? = some a → vals[j]? = some v → DR (fun b => b < w.heap.size) w a v) :
    Calls P f vals w fun e w' => e = .returned (.bool true) ∧ Below w.heap.size w w' := by
  have := h.2 (fun b => b < w.heap.size) (fun _ => (0, 0)) w vals.toList ⟨fun id r hr => by simp [hL, nth] at hr, fun i j ri rj hi => by simp [hL, nth] at hi, fun id r hr => by simp [hL, nth] at hr, fun b hb => hb,
    fun g cs hg => by cases hg⟩ (by simpa using hl) (fun j a v ha hv' => .dr (hv j a v ha (by simpa using hv')))
  refine Calls.mono this fun e w' ⟨v, ρ', O', he, hvr, S, F⟩ => ?_
  subst he
  refine ⟨by rw [VR_lit hvr], ⟨F.os, F.tape, F.output, F.size, fun b hb => F.keep b hb fun id r hr => by simp [hL, nth] at hr⟩⟩

end
end Go.Ax
/-
  An abstract machine for Go functions (part 23): rows that nobody writes any more become data that are told by value.
-/
set_option linter.unusedVariables false
set_option linter.unusedSimpArgs false
namespace Go.Ax

def frzH (k : Nat) (r : Row) : Nat → List Row → List Row
  | _, [] => []
  | i, x :: l => (bif Nat.beq i k then .gone else frzRow k r x) :: frzH k r (i + 1) l

theorem frzH_get (k : Nat) (r : Row) : ∀ (l : List Row) (i j : Nat), (frzH k r i l)[j]? = (l[j]?).map fun x => if i + j = k then .gone else frzRow k r x
  | [], i, j => by simp [frzH]
  | x :: l, i, 0 => by
    simp only [frzH, List.getElem?_cons_zero, Option.map_some, Nat.add_zero]
    cases hb : Nat.beq i k with
    | true => simp [Nat.eq_of_beq_eq_true hb]
    | false =>
      have : i ≠ k := fun h => by subst h; simp at hb
      simp [this]
  | x :: l, i, j + 1 => by
    simp only [frzH, List.getElem?_cons_succ]
    rw [frzH_get k r l (i + 1) j, show i + 1 + j = i + (j + 1) by omega]

section
variable {P : Program} {G : Env} {ρ : Lay} {O : Nat → Prop} {w : World}

theorem freeze {H : List Row} {k : Nat} {r : Row} (S : Sim G ρ (hL H) O w) (hk : H[k]? = some r) (hc : canFrz r = true) :
    ∃ O1, Sim G ρ (hL (frzH k r 0 H)) O1 w ∧ Fr ρ (hL H) O w ρ (hL (frzH k r 0 H)) O1 w ∧ ∀ a v, VR ρ (hL H) O w a v → VR ρ (hL (frzH k r 0 H)) O1 w (a.frz k r) v :=
  freezeH S (by rw [hL_get]; exact hk) hc
    (fun j x hj => by
      rw [hL_get] at hj ⊢
      rw [frzH_get, hj]
      simp)
    (fun j x hj => by
      rw [hL_get, frzH_get] at hj
      obtain ⟨y, hy, he⟩ := Option.map_eq_some_iff.1 hj
      rw [Nat.zero_add] at he
      by_cases hjk : j = k
      · rw [if_pos hjk] at he; exact .inl ⟨hjk, he.symm⟩
      · rw [if_neg hjk] at he; exact .inr ⟨y, hjk, by rw [hL_get]; exact hy, he.symm⟩)

/-- A row among the results, by value. -/
theorem ACalls.freezeRet {f : FuncId} {args : List AV} {H H' : List Row} {ret : AV} (k : Nat) {r : Row} (h : ACalls P G f args H ret H') (hk : H'[k]? = some r) (hc : canFrz r = true) :
    ACalls P G f args H (ret.frz k r) (frzH k r 0 H') :=
  ⟨h.1, fun O ρ w vals S hl hv => (h.2 O ρ w vals S hl hv).mono fun e w' ⟨v, ρ', O', he, hr, S', F'⟩ => by
    obtain ⟨O1, S1, F1, V1⟩ := freeze S' hk hc
    exact ⟨v, ρ', O1, he, V1 _ _ hr, S1, F'.trans F1⟩⟩

/-- A row among the arguments, by value. -/
theorem ACalls.freezeArg {f : FuncId} {args : List AV} {H H' : List Row} {ret : AV} (k : Nat) {r : Row} (hk : H[k]? = some r) (hc : canFrz r = true) (h : ACalls P G f (args.map (AV.frz k r)) (frzH k r 0 H) ret H') :
    ACalls P G f args H ret H' :=
  ⟨h.1, fun O ρ w vals S hl hv => by
    obtain ⟨O1, S1, F1, V1⟩ := freeze S hk hc
    refine (h.2 O1 ρ w vals S1 (by simpa using hl) fun j a v ha hv' => ?_).mono fun e w' ⟨v, ρ', O', he, hr, S', F'⟩ => ⟨v, ρ', O', he, hr, S', F1.trans F'⟩
    rw [List.getElem?_map] at ha
    obtain ⟨a', ha', rfl⟩ := Option.map_eq_some_iff.1 ha
    exact V1 _ _ (hv j a' v ha' hv')⟩

/-- Only some of the rows are told of. -/
theorem ACalls.only {f : FuncId} {args : List AV} {H H' : List Row} {ret : AV} (L : List Nat) (h : ACalls P G f args H ret H') (hL' : finOk H.length L (hL H') = true) :
    ACalls P G f args H (ret.ren (idxIn L 0)) (outRows L (hL H') L) :=
  ⟨h.1, fun O ρ w vals S hl hv => (h.2 O ρ w vals S hl hv).mono fun e w' ⟨v, ρ', O', he, hr, S', F'⟩ => by
    obtain ⟨q1, q2, q3⟩ := fin_out rfl rfl hL' S' F'
    exact ⟨v, _, O', he, VR_ren q1 hr, q2, q3⟩⟩

/-- Other words for the same contract; more arguments. -/
theorem ACalls.le {f : FuncId} {args args' : List AV} {H H' H2 : List Row} {ret ret' : AV} (h : ACalls P G f args H ret H') (ha : leAll args' args) (hret : Le ret ret') (hH : H' = H2) : ACalls P G f args' H ret' H2 := by
  subst hH
  obtain ⟨l1, l2⟩ := leAll_spec ha
  refine ⟨h.1, fun O ρ w vals S hl hv => (h.2 O ρ w vals S (by omega) fun j a v ha hv' => ?_).mono fun e w' ⟨v, ρ', O', he, hr, S', F'⟩ => ⟨v, ρ', O', he, hret _ _ _ _ _ hr, S', F'⟩⟩
  have hlt : j < args'.length := by rw [l1]; exact (List.getElem?_eq_some_iff.1 ha).1
  have h0 : args'[j]? = some args'[j] := List.getElem?_eq_some_iff.2 ⟨hlt, rfl⟩
  exact l2 j _ a h0 ha _ _ _ _ _ (hv j _ v h0 hv')

end
end Go.Ax
/-
  An abstract machine for Go functions (part 24): small helps.
-/
set_option linter.unusedVariables false
set_option linter.unusedSimpArgs false
namespace Go.Ax

def loopsIn : Code → List Code
  | .seq a b => loopsIn a ++ loopsIn b
  | .cond _ a b => loopsIn a ++ loopsIn b
  | .block _ c => loopsIn c
  | .scope c => loopsIn c
  | .loop c => c :: loopsIn c
  | _ => []

/-- The body of a function's loop number k. -/
def loopAt (fn : Func) (k : Nat) : Code := (nth (loopsIn (fn.body.getD .skip)) k).getD .skip

def noG : Env := fun _ => none

theorem Le_nil : Le (.lit (.slice none 0 0)) (.bts []) := fun ρ h O w v hv => by rw [VR_lit hv]; exact .dr .btsnil
@[simp] theorem Le_nil_iff : Le (.lit (.slice none 0 0)) (.bts []) ↔ True := ⟨fun _ => trivial, fun _ => Le_nil⟩

theorem AllP_nil : AllP [] := trivial
/-- A contract again, its words changed. -/
theorem ACalls.cast {P : Program} {G : Env} {f : FuncId} {args args' : List AV} {H H' H0 H1 : List Row} {ret ret' : AV} (h : ACalls P G f args H ret H') (ha : args = args') (hH : H = H0) (hr : ret = ret') (hH' : H' = H1) :
    ACalls P G f args' H0 ret' H1 := by subst ha; subst hH; subst hr; subst hH'; exact h

/-- Rows that a call does not look at. -/
theorem ACalls.frame {P : Program} {G : Env} {f : FuncId} {args : List AV} {ret : AV} (H : List Row) (h : ACalls P G f args [] ret []) (ha : leAll (args.map (AV.ren (idxIn [] 0))) args) (hr : ret.ren (backTo [] H.length) = ret) :
    ACalls P G f args H ret H := by
  refine ⟨h.1, fun O ρ w vals S hl hv => ?_⟩
  have K : SubOk (hL H) [] [] := ⟨fun i j x hi _ => (by simp at hi), fun id hm => (by cases hm), rfl, fun k id hk => (by simp at hk)⟩
  refine (h.2 O (layOf ρ []) w vals (K.sim S) hl fun j a v ha' hv' => ?_).mono fun e w' ⟨v, ρ2, O2, he, hvr, S2, F2⟩ => ?_
  · have h1 : (args.map (AV.ren (idxIn [] 0)))[j]? = some (a.ren (idxIn [] 0)) := by rw [List.getElem?_map, ha']; rfl
    exact (leAll_spec ha).2 j _ a h1 ha' _ _ _ _ _ (VR_ren K.ren (hv j a v ha' hv'))
  · obtain ⟨q1, q2, q3⟩ := sub_back (fr := H.length) K S (Nat.zero_le _) (fun i h1 h2 => by simp at h2; omega) S2 F2
    exact ⟨v, _, O2, he, by have := VR_ren q1 hvr; rw [hr] at this; exact this, q2, q3⟩

end Go.Ax
/-
  An abstract machine for Go functions (part 25): rows told anew: put elsewhere in the list, told less of, with the room behind a slice.
-/
set_option linter.unusedVariables false
set_option linter.unusedSimpArgs false
namespace Go.Ax

/-! ### Another order of the rows -/
def idxM : List (Option Nat) → Nat → Nat → Option Nat
  | [], _, _ => none
  | some x :: l, k, id => bif Nat.beq x id then some k else idxM l (k + 1) id
  | none :: l, k, id => idxM l (k + 1) id

def rangeM : Nat → Nat → List (Option Nat) → Bool
  | _, 0, _ => true
  | k, n + 1, some x :: l => bif Nat.beq x k then rangeM (k + 1) n l else false
  | k, n + 1, none :: l => rangeM (k + 1) n l
  | _, _ + 1, [] => false

def memM : List (Option Nat) → Nat → Bool
  | [], _ => false
  | some x :: l, id => bif Nat.beq x id then true else memM l id
  | none :: l, id => memM l id

def nodupM : List (Option Nat) → Bool
  | [] => true
  | some x :: l => bif memM l x then false else nodupM l
  | none :: l => nodupM l

def inM (h : Heap) : List (Option Nat) → Bool
  | [] => true
  | some id :: l => match h id with | some _ => inM h l | none => false
  | none :: l => inM h l

def outM (f : Nat → Option Nat) (h : Heap) : List (Option Nat) → List Row
  | [] => []
  | some id :: l => ((h id).getD .gone).ren f :: outM f h l
  | none :: l => .gone :: outM f h l

def packOk (k : Nat) (M : List (Option Nat)) (h : Heap) : Bool := rangeM 0 k M && nodupM M && inM h M

theorem idxM_spec : ∀ {M : List (Option Nat)} {b id k : Nat}, idxM M b id = some k → b ≤ k ∧ M[k - b]? = some (some id)
  | [], b, id, k, h => by simp [idxM] at h
  | none :: M, b, id, k, h => by
    simp only [idxM] at h
    obtain ⟨h1, h2⟩ := idxM_spec h
    refine ⟨by omega, ?_⟩
    rw [show k - b = (k - (b + 1)) + 1 by omega]
    simpa using h2
  | some x :: M, b, id, k, h => by
    simp only [idxM] at h
    cases hb : Nat.beq x id with
    | true => simp only [hb, cond_true, Option.some.injEq] at h; subst h; simp [Nat.eq_of_beq_eq_true hb]
    | false =>
      simp only [hb, cond_false] at h
      obtain ⟨h1, h2⟩ := idxM_spec h
      refine ⟨by omega, ?_⟩
      rw [show k - b = (k - (b + 1)) + 1 by omega]
      simpa using h2

theorem memM_iff : ∀ {M : List (Option Nat)} {x : Nat}, memM M x = true ↔ some x ∈ M
  | [], x => by simp [memM]
  | none :: M, x => by simp only [memM, memM_iff (M := M)]; simp
  | some y :: M, x => by
    simp only [memM]
    cases hb : Nat.beq y x with
    | true => simp [(Nat.eq_of_beq_eq_true hb).symm]
    | false =>
      simp only [cond_false, memM_iff (M := M)]
      have : x ≠ y := fun e => by subst e; simp at hb
      simp [this]

theorem nodupM_spec : ∀ {M : List (Option Nat)}, nodupM M = true → ∀ (i j : Nat) x, M[i]? = some (some x) → M[j]? = some (some x) → i = j
  | [], _, i, j, x, hi, hj => by simp at hi
  | none :: M, hn, i, j, x, hi, hj => by
    cases i with
    | zero => simp at hi
    | succ i =>
      cases j with
      | zero => simp at hj
      | succ j => rw [nodupM_spec (M := M) hn i j x (by simpa using hi) (by simpa using hj)]
  | some y :: M, hn, i, j, x, hi, hj => by
    simp only [nodupM] at hn
    cases hb : memM M y with
    | true => simp [hb] at hn
    | false =>
      simp only [hb, cond_false] at hn
      have hno : some y ∉ M := fun hm => by rw [memM_iff.2 hm] at hb; cases hb
      cases i with
      | zero =>
        cases j with
        | zero => rfl
        | succ j => simp at hi hj; subst hi; exact absurd (List.mem_of_getElem? hj) hno
      | succ i =>
        cases j with
        | zero => simp at hi hj; subst hj; exact absurd (List.mem_of_getElem? hi) hno
        | succ j => simp at hi hj; rw [nodupM_spec hn i j x hi hj]

theorem inM_spec {h : Heap} : ∀ {M : List (Option Nat)}, inM h M = true → ∀ id, some id ∈ M → ∃ r, h id = some r
  | [], _, id, hm => by cases hm
  | none :: M, hi, id, hm => inM_spec (M := M) hi id (by simpa using hm)
  | some x :: M, hi, id, hm => by
    simp only [inM] at hi
    split at hi
    · rename_i r hr
      rcases List.mem_cons.1 hm with he | hm
      · cases he; exact ⟨r, hr⟩
      · exact inM_spec hi id hm
    · cases hi

theorem rangeM_spec : ∀ {n k : Nat} {M : List (Option Nat)}, rangeM k n M = true → ∀ i, i < n → M[i]? = some (some (k + i)) ∨ M[i]? = some none
  | 0, k, M, _, i, hi => by omega
  | n + 1, k, [], h, i, hi => by simp [rangeM] at h
  | n + 1, k, none :: M, h, i, hi => by
    simp only [rangeM] at h
    cases i with
    | zero => simp
    | succ i =>
      have := rangeM_spec h i (by omega)
      rw [List.getElem?_cons_succ, show k + (i + 1) = k + 1 + i by omega]
      exact this
  | n + 1, k, some x :: M, h, i, hi => by
    simp only [rangeM] at h
    cases hb : Nat.beq x k with
    | false => simp [hb] at h
    | true =>
      simp only [hb, cond_true] at h
      cases i with
      | zero => simp [Nat.eq_of_beq_eq_true hb]
      | succ i =>
        have := rangeM_spec h i (by omega)
        rw [List.getElem?_cons_succ, show k + (i + 1) = k + 1 + i by omega]
        exact this

theorem outM_get {f : Nat → Option Nat} {h : Heap} : ∀ (M : List (Option Nat)) (k : Nat), (outM f h M)[k]? = (M[k]?).map fun | some id => ((h id).getD .gone).ren f | none => .gone
  | [], k => by simp [outM]
  | none :: M, 0 => by simp [outM]
  | some id :: M, 0 => by simp [outM]
  | none :: M, k + 1 => by simpa [outM] using outM_get M k
  | some id :: M, k + 1 => by simpa [outM] using outM_get M k

def layM (ρ : Lay) (M : List (Option Nat)) : Lay := fun k => match M[k]? with | some (some id) => ρ id | _ => (0, 0)

section
variable {P : Program} {G : Env} {ρ : Lay} {O : Nat → Prop} {w : World}

theorem pack_out {M : List (Option Nat)} {h : Heap} {ρ0 : Lay} {O0 : Nat → Prop} {w0 : World} {H : List Row} (hf : packOk H.length M h = true) (S : Sim G ρ h O w) (F : Fr ρ0 (hL H) O0 w0 ρ h O w) :
    RenOk (idxM M 0) ρ h (layM ρ M) (hL (outM (idxM M 0) h M)) ∧ Sim G (layM ρ M) (hL (outM (idxM M 0) h M)) O w ∧ Fr ρ0 (hL H) O0 w0 (layM ρ M) (hL (outM (idxM M 0) h M)) O w := by
  simp only [packOk, Bool.and_eq_true] at hf
  obtain ⟨⟨f1, f2⟩, f3⟩ := hf
  have hnd := nodupM_spec f2
  have hlay : ∀ k id, M[k]? = some (some id) → layM ρ M k = ρ id := fun k id hk => by simp [layM, hk]
  have hget : ∀ j r, hL (outM (idxM M 0) h M) j = some r → r.live = true → ∃ id r0, M[j]? = some (some id) ∧ h id = some r0 ∧ r = r0.ren (idxM M 0) := fun j r hj hl => by
    rw [hL_get, outM_get] at hj
    obtain ⟨x, hx, he⟩ := Option.map_eq_some_iff.1 hj
    cases x with
    | none => subst he; cases hl
    | some id =>
      obtain ⟨r0, hr0⟩ := inM_spec f3 id (List.mem_of_getElem? hx)
      refine ⟨id, r0, hx, hr0, ?_⟩
      simp only [hr0, Option.getD_some] at he
      exact he.symm
  have hput : ∀ j id r0, M[j]? = some (some id) → h id = some r0 → hL (outM (idxM M 0) h M) j = some (r0.ren (idxM M 0)) := fun j id r0 hj hr0 => by
    rw [hL_get, outM_get, hj]
    simp [hr0]
  have R : RenOk (idxM M 0) ρ h (layM ρ M) (hL (outM (idxM M 0) h M)) := ⟨fun id j r hj hid => by
    obtain ⟨_, h2⟩ := idxM_spec hj
    rw [Nat.sub_zero] at h2
    refine ⟨_, hput j id r h2 hid, fun hl => ?_⟩
    rw [Row.ren_live] at hl
    exact ⟨hl, hlay _ _ h2, Row.ren_isMap _ _, Row.ren_sz _ _, by rw [Row.ren_len]; exact Nat.le_refl _⟩⟩
  refine ⟨R, ⟨fun j r hj => ?_, fun i j ri rj hi hj hli hlj he => ?_, fun j r hj hl => ?_, S.lt, S.glob⟩, ⟨F.os, F.tape, F.output, F.size, F.keep, fun id r hr => ?_, fun j r hj hl => ?_, F.old, F.oldnew⟩⟩
  · cases hl : r.live with
    | false => cases r <;> first | trivial | cases hl
    | true =>
      obtain ⟨id, r0, g1, g2, rfl⟩ := hget j r hj hl
      exact RowR_ren R (fun _ => hlay _ _ g1) (S.rows id r0 g2)
  · obtain ⟨id, r0, g1, g2, rfl⟩ := hget i ri hi hli
    obtain ⟨id', r0', g1', g2', rfl⟩ := hget j rj hj hlj
    rw [Row.ren_live] at hli hlj
    rw [hlay _ _ g1, hlay _ _ g1'] at he
    have := S.inj id id' r0 r0' g2 g2' hli hlj he
    subst this
    exact hnd i j id g1 g1'
  · obtain ⟨id, r0, g1, g2, rfl⟩ := hget j r hj hl
    rw [Row.ren_live] at hl
    rw [hlay _ _ g1]
    exact S.notO id r0 g2 hl
  · obtain ⟨r', hr', hx⟩ := F.dom id r hr
    have hlt : id < H.length := by
      rw [hL_get] at hr
      exact (List.getElem?_eq_some_iff.1 hr).1
    rcases rangeM_spec f1 id hlt with hid | hid
    · rw [Nat.zero_add] at hid
      refine ⟨_, hput id id r' hid hr', fun hl => ?_⟩
      rw [Row.ren_live] at hl
      obtain ⟨a1, a2, a3, a4, a5, a6⟩ := hx hl
      exact ⟨a1, by rw [hlay _ _ hid]; exact a2, by rw [Row.ren_isMap]; exact a3, by rw [Row.ren_sz]; exact a4, by rw [Row.ren_len]; exact a5, a6⟩
    · exact ⟨.gone, by rw [hL_get, outM_get, hid]; rfl, fun hl => by cases hl⟩
  · obtain ⟨id, r0, g1, g2, rfl⟩ := hget j r hj hl
    rw [Row.ren_live] at hl
    rw [hlay _ _ g1]
    exact F.own id r0 g2 hl

/-- The rows that come out, in another order; some no longer told of. -/
theorem ACalls.pack {f : FuncId} {args : List AV} {H H' : List Row} {ret : AV} (M : List (Option Nat)) (h : ACalls P G f args H ret H') (hM : packOk H.length M (hL H') = true) :
    ACalls P G f args H (ret.ren (idxM M 0)) (outM (idxM M 0) (hL H') M) :=
  ⟨h.1, fun O ρ w vals S hl hv => (h.2 O ρ w vals S hl hv).mono fun e w' ⟨v, ρ', O', he, hr, S', F'⟩ => by
    obtain ⟨q1, q2, q3⟩ := pack_out hM S' F'
    exact ⟨v, _, O', he, VR_ren q1 hr, q2, q3⟩⟩

/-! ### Rows told less of -/
mutual
def AV.fit (k : Nat) (n s : Nat) : AV → Prop
  | .own id off len _ => id = k → off + len * s ≤ n
  | .agg cs => AV.fitL k n s cs
  | .tup cs => AV.fitL k n s cs
  | .ifc _ v => AV.fit k n s v
  | .opt _ v => AV.fit k n s v
  | .clo _ fs cp => AV.fitL k n s fs ∧ AV.fitL k n s cp
  | .ptr .. => True
  | .mp _ => True
  | .dead => True
  | .lit _ => True
  | .bts _ => True
  | .ro .. => True
  | .rp .. => True
def AV.fitL (k : Nat) (n s : Nat) : List AV → Prop
  | [] => True
  | a :: l => AV.fit k n s a ∧ AV.fitL k n s l
end

def rowFit (k n s : Nat) (r : Row) : Prop := AV.fitL k n s r.cs ∧ AV.fitL k n s (r.ents.map (·.2))

/-! ### The room behind a slice -/
theorem relay {e n : Nat} {bs : List UInt8} {v : Value} {R : Nat → Row} (S : Sim G ρ (hL [.bytes e bs]) O w) (hn : bs.length = n) (hv : VR ρ (hL [.bytes e bs]) O w (.own 0 0 n none) v)
    (hR : ∀ c, n ≤ c → (R c).live = true ∧ (R c).isMap = false ∧ (R c).elem = e ∧ (R c).sz = 1 ∧ n ≤ (R c).len ∧ (R c).len ≤ c ∧
      ∀ (j : Nat) a, (R c).cs[j]? = some a → (∃ b, bs[j]? = some b ∧ a = u8 b) ∨ a = .dead) :
    ∃ c ρ', n ≤ c ∧ c ≤ 9223372036854775807 ∧ Sim G ρ' (hL [.gone, R c]) O w ∧ Fr ρ (hL [.bytes e bs]) O w ρ' (hL [.gone, R c]) O w ∧ VR ρ' (hL [.gone, R c]) O w (.own 1 0 n (some c)) v := by
  have h0 : hL [.bytes e bs] 0 = some (.bytes e bs) := rfl
  obtain ⟨a, c, m, rfl, k1, k2, k3, k4, k5, k6, k7, k8, k9⟩ := VR_own hv h0 rfl
  obtain ⟨r1, r2, r3, r4, r5, r6, r7⟩ := hR c k5
  obtain ⟨cur, g1, g2, g3⟩ := row_cells S h0 rfl rfl
  have hm : m = cur.size := by simp only [blockSize, g1] at k7; exact (Option.some.inj k7).symm
  simp only [Row.sz, Nat.mul_one, Row.len, Row.cs] at k8 g2 g3
  have hone : ∀ j x, hL [.gone, R c] j = some x → x.live = true → j = 1 ∧ x = R c := fun j x hj hl => by
    match j with
    | 0 => simp [hL, nth] at hj; subst hj; cases hl
    | 1 => simp [hL, nth] at hj; exact ⟨rfl, hj.symm⟩
    | j + 2 => simp [hL, nth] at hj
  have h1 : hL [.gone, R c] 1 = some (R c) := rfl
  let ρ' : Lay := fun j => if j = 1 then (a.block, a.off) else ρ j
  have hρ1 : ρ' 1 = (a.block, a.off) := rfl
  have F : Fr ρ (hL [.bytes e bs]) O w ρ' (hL [.gone, R c]) O w :=
    { os := rfl, tape := rfl, output := rfl, size := Nat.le_refl _, keep := fun _ _ _ => rfl
      dom := fun id x hx => by
        match id with
        | 0 => exact ⟨.gone, rfl, fun hl => by cases hl⟩
        | id + 1 => simp [hL, nth] at hx
      own := fun id x hx hl => by
        obtain ⟨rfl, rfl⟩ := hone id x hx hl
        exact .inl ⟨0, _, h0, rfl, by rw [hρ1]; exact k3.symm⟩
      old := fun _ h => h
      oldnew := fun _ h => .inl h }
  refine ⟨c, ρ', k5, k6, S.step F (fun id x hx hl => .inr ?_) (fun i j ri rj hi hj hli hlj he => ?_) (fun id x hx hl hO => ?_) S.lt, F, ?_⟩
  · obtain ⟨rfl, rfl⟩ := hone id x hx hl
    rw [rowR_cells r1 r2, hρ1]
    refine ⟨cur, by rw [r3]; simp only [k3]; exact g1, by rw [Row.cs_length]; simp only; omega, fun j y hj => ?_⟩
    have hjlt : j < (R c).len := by rw [← Row.cs_length]; exact (List.getElem?_eq_some_iff.1 hj).1
    rcases r7 j y hj with ⟨b, hb, rfl⟩ | rfl
    · obtain ⟨u, u1, u2⟩ := g3 j (u8 b) (by simp [hb])
      have hpos : 0 < n := by have := (List.getElem?_eq_some_iff.1 hb).1; omega
      have ho := k4 (.inl hpos)
      refine ⟨u, by simp only [ho, Nat.add_zero]; exact u1, ?_⟩
      have := VR_lit u2
      subst this
      exact VR.ofLit _
    · have hlt : a.off + j < cur.size := by omega
      exact ⟨cur[a.off + j], by simp [hlt], .dr (.dead _)⟩
  · obtain ⟨rfl, rfl⟩ := hone i ri hi hli
    obtain ⟨rfl, rfl⟩ := hone j rj hj hlj
    rfl
  · obtain ⟨rfl, rfl⟩ := hone id x hx hl
    exact S.notO 0 _ h0 rfl (by rw [← k3]; exact hO)
  · exact .own h1 r1 r2 (by rw [r4]; omega) k2 rfl (fun _ => by rw [hρ1]; simp) k5 k6 (by rw [hρ1]; simp only [k3]; exact k7) (by rw [r4, Nat.mul_one]; exact k8) (fun c' he => by cases he; rfl)

/-- A call whose first argument is a slice of bytes: the room behind it is too small, or it is there to be written. -/
theorem ACalls.spare {f : FuncId} {e : TypeId} {bs : List UInt8} {rest : List AV} {ret : AV} {H' : List Row} (sz : Nat) (hrest : AV.closedL rest = true) (hbig : bs.length + sz ≤ 9223372036854775807)
    (h1 : ∀ c, bs.length ≤ c → c < bs.length + sz → ACalls P G f (.own 1 0 bs.length (some c) :: rest) [.gone, .bytes e bs] ret H')
    (h2 : ∀ c, bs.length + sz ≤ c → c ≤ 9223372036854775807 → ACalls P G f (.own 1 0 bs.length (some c) :: rest) [.gone, .cells e 1 (bs.map u8 ++ List.replicate (c - bs.length) .dead)] ret H') :
    ACalls P G f (.own 0 0 bs.length none :: rest) [.bytes e bs] ret H' := by
  refine ⟨?_, fun O ρ w vals S hl hv => ?_⟩
  · by_cases hs : 0 < sz
    · exact (h1 bs.length (Nat.le_refl _) (by omega)).1
    · exact (h2 _ (Nat.le_refl _) hbig).1
  · cases vals with
    | nil => simp at hl
    | cons v vs =>
    let R : Nat → Row := fun c => if c < bs.length + sz then .bytes e bs else .cells e 1 (bs.map u8 ++ List.replicate (c - bs.length) .dead)
    obtain ⟨c, ρ', c1, c2, S', F', V'⟩ := relay (R := R) S rfl (hv 0 _ v rfl rfl) fun c hc => by
      by_cases hlt : c < bs.length + sz
      · simp only [R, if_pos hlt]
        refine ⟨rfl, rfl, rfl, rfl, Nat.le_refl _, hc, fun j a hj => .inl ?_⟩
        simp only [Row.cs, List.getElem?_map] at hj
        obtain ⟨b, hb, rfl⟩ := Option.map_eq_some_iff.1 hj
        exact ⟨b, hb, rfl⟩
      · simp only [R, if_neg hlt]
        refine ⟨rfl, rfl, rfl, rfl, by simp [Row.len], by simp [Row.len]; omega, fun j a hj => ?_⟩
        simp only [Row.cs] at hj
        by_cases hj1 : j < bs.length
        · rw [List.getElem?_append_left (by simpa using hj1), List.getElem?_map] at hj
          obtain ⟨b, hb, rfl⟩ := Option.map_eq_some_iff.1 hj
          exact .inl ⟨b, hb, rfl⟩
        · rw [List.getElem?_append_right (by simp; omega)] at hj
          exact .inr (List.eq_of_mem_replicate (List.mem_of_getElem? hj))
    have key : ACalls P G f (.own 1 0 bs.length (some c) :: rest) [.gone, R c] ret H' := by
      by_cases hlt : c < bs.length + sz
      · simp only [R, if_pos hlt]; exact h1 c c1 hlt
      · simp only [R, if_neg hlt]; exact h2 c (by omega) c2
    refine (key.2 O ρ' w (v :: vs) S' (by simpa using hl) fun j a x ha hx => ?_).mono fun e' w' ⟨v', ρ2, O2, g1, g2, g3, g4⟩ => ⟨v', ρ2, O2, g1, g2, g3, F'.trans g4⟩
    cases j with
    | zero => simp at ha hx; subst ha; subst hx; exact V'
    | succ j =>
      have ha' : rest[j]? = some a := by simpa using ha
      exact .dr (VR_closed (hv (j + 1) a x (by simpa using ha') hx) (closedL_mem hrest a (List.mem_of_getElem? ha')))
end
end Go.Ax
/-
  An abstract machine for Go functions (part 26): loops whose rounds make rows anew: from number k on the rows may be laid anew between rounds.
-/
set_option linter.unusedVariables false
set_option linter.unusedSimpArgs false
namespace Go.Ax
open Go.RowKit

/-- As 'Fr', but of the rows from number k on nothing is said. -/
structure FrK (k : Nat) (ρ : Lay) (h : Heap) (O : Nat → Prop) (w : World) (ρ' : Lay) (h' : Heap) (O' : Nat → Prop) (w' : World) : Prop where
  os : w'.os = w.os
  tape : w'.tape = w.tape
  output : w'.output = w.output
  size : w.heap.size ≤ w'.heap.size
  keep : ∀ b, b < w.heap.size → (∀ id r, h id = some r → r.live = true → (ρ id).1 ≠ b) → w'.heap[b]? = w.heap[b]?
  dom : ∀ id r, id < k → h id = some r → ∃ r', h' id = some r' ∧ (r'.live = true → r.live = true ∧ ρ' id = ρ id ∧ r'.isMap = r.isMap ∧ r'.sz = r.sz ∧ r.len ≤ r'.len ∧
      blockSize w' (ρ id).1 = blockSize w (ρ id).1)
  own : ∀ id r', h' id = some r' → r'.live = true → (∃ i r, h i = some r ∧ r.live = true ∧ (ρ i).1 = (ρ' id).1) ∨ w.heap.size ≤ (ρ' id).1
  old : ∀ b, O b → O' b
  oldnew : ∀ b, O' b → O b ∨ (∃ i r, h i = some r ∧ r.live = true ∧ (ρ i).1 = b) ∨ w.heap.size ≤ b

theorem Fr.toK (k : Nat) {ρ ρ' : Lay} {h h' : Heap} {O O' : Nat → Prop} {w w' : World} (F : Fr ρ h O w ρ' h' O' w') : FrK k ρ h O w ρ' h' O' w' :=
  ⟨F.os, F.tape, F.output, F.size, F.keep, fun id r _ hr => F.dom id r hr, F.own, F.old, F.oldnew⟩

theorem FrK.trans {k : Nat} {ρ ρ1 ρ2 : Lay} {h h1 h2 : Heap} {O O1 O2 : Nat → Prop} {w w1 w2 : World} (F : FrK k ρ h O w ρ1 h1 O1 w1) (F' : FrK k ρ1 h1 O1 w1 ρ2 h2 O2 w2) : FrK k ρ h O w ρ2 h2 O2 w2 where
  os := F'.os.trans F.os
  tape := F'.tape.trans F.tape
  output := F'.output.trans F.output
  size := Nat.le_trans F.size F'.size
  keep := fun b hb hn => by
    refine (F'.keep b (Nat.lt_of_lt_of_le hb F.size) fun id r hr hl e => ?_).trans (F.keep b hb hn)
    rcases F.own id r hr hl with ⟨i, ri, hi, hli, he⟩ | hge
    · exact hn i ri hi hli (he.trans e)
    · omega
  dom := fun id r hk hr => by
    obtain ⟨r1, hr1, hx1⟩ := F.dom id r hk hr
    obtain ⟨r2, hr2, hx2⟩ := F'.dom id r1 hk hr1
    refine ⟨r2, hr2, fun hl => ?_⟩
    obtain ⟨l1, a1, a2, a3, a4, a5⟩ := hx2 hl
    obtain ⟨l0, b1, b2, b3, b4, b5⟩ := hx1 l1
    refine ⟨l0, a1.trans b1, a2.trans b2, a3.trans b3, Nat.le_trans b4 a4, ?_⟩
    rw [b1] at a5
    exact a5.trans b5
  own := fun id r hr hl => by
    rcases F'.own id r hr hl with ⟨i, ri, hi, hli, he⟩ | hge
    · rcases F.own i ri hi hli with ⟨k, rk, hk, hlk, hek⟩ | hge
      · exact .inl ⟨k, rk, hk, hlk, hek.trans he⟩
      · exact .inr (he ▸ hge)
    · exact .inr (Nat.le_trans F.size hge)
  old := fun b hb => F'.old b (F.old b hb)
  oldnew := fun b hb => by
    rcases F'.oldnew b hb with hb | ⟨i, ri, hi, hli, he⟩ | hge
    · exact F.oldnew b hb
    · rcases F.own i ri hi hli with ⟨k, rk, hk, hlk, hek⟩ | hge
      · exact .inr (.inl ⟨k, rk, hk, hlk, hek.trans he⟩)
      · exact .inr (.inr (he ▸ hge))
    · exact .inr (.inr (Nat.le_trans F.size hge))

/-- The rows below k stay, or are no longer told of. -/
def packK (k : Nat) (M : List (Option Nat)) (h : Heap) : Bool := rangeM 0 k M && nodupM M && inM h M

section
variable {P : Program} {G : Env} {ρ : Lay} {O : Nat → Prop} {w : World}

theorem pack_outK {k : Nat} {M : List (Option Nat)} {h h0 : Heap} {ρ0 : Lay} {O0 : Nat → Prop} {w0 : World} (hf : packK k M h = true) (S : Sim G ρ h O w) (F : FrK k ρ0 h0 O0 w0 ρ h O w) :
    RenOk (idxM M 0) ρ h (layM ρ M) (hL (outM (idxM M 0) h M)) ∧ Sim G (layM ρ M) (hL (outM (idxM M 0) h M)) O w ∧ FrK k ρ0 h0 O0 w0 (layM ρ M) (hL (outM (idxM M 0) h M)) O w := by
  simp only [packK, Bool.and_eq_true] at hf
  obtain ⟨⟨f1, f2⟩, f3⟩ := hf
  have hnd := nodupM_spec f2
  have hlay : ∀ k id, M[k]? = some (some id) → layM ρ M k = ρ id := fun k id hk => by simp [layM, hk]
  have hget : ∀ j r, hL (outM (idxM M 0) h M) j = some r → r.live = true → ∃ id r0, M[j]? = some (some id) ∧ h id = some r0 ∧ r = r0.ren (idxM M 0) := fun j r hj hl => by
    rw [hL_get, outM_get] at hj
    obtain ⟨x, hx, he⟩ := Option.map_eq_some_iff.1 hj
    cases x with
    | none => subst he; cases hl
    | some id =>
      obtain ⟨r0, hr0⟩ := inM_spec f3 id (List.mem_of_getElem? hx)
      refine ⟨id, r0, hx, hr0, ?_⟩
      simp only [hr0, Option.getD_some] at he
      exact he.symm
  have hput : ∀ j id r0, M[j]? = some (some id) → h id = some r0 → hL (outM (idxM M 0) h M) j = some (r0.ren (idxM M 0)) := fun j id r0 hj hr0 => by
    rw [hL_get, outM_get, hj]
    simp [hr0]
  have R : RenOk (idxM M 0) ρ h (layM ρ M) (hL (outM (idxM M 0) h M)) := ⟨fun id j r hj hid => by
    obtain ⟨_, h2⟩ := idxM_spec hj
    rw [Nat.sub_zero] at h2
    refine ⟨_, hput j id r h2 hid, fun hl => ?_⟩
    rw [Row.ren_live] at hl
    exact ⟨hl, hlay _ _ h2, Row.ren_isMap _ _, Row.ren_sz _ _, by rw [Row.ren_len]; exact Nat.le_refl _⟩⟩
  refine ⟨R, ⟨fun j r hj => ?_, fun i j ri rj hi hj hli hlj he => ?_, fun j r hj hl => ?_, S.lt, S.glob⟩, ⟨F.os, F.tape, F.output, F.size, F.keep, fun id r hlt hr => ?_, fun j r hj hl => ?_, F.old, F.oldnew⟩⟩
  · cases hl : r.live with
    | false => cases r <;> first | trivial | cases hl
    | true =>
      obtain ⟨id, r0, g1, g2, rfl⟩ := hget j r hj hl
      exact RowR_ren R (fun _ => hlay _ _ g1) (S.rows id r0 g2)
  · obtain ⟨id, r0, g1, g2, rfl⟩ := hget i ri hi hli
    obtain ⟨id', r0', g1', g2', rfl⟩ := hget j rj hj hlj
    rw [Row.ren_live] at hli hlj
    rw [hlay _ _ g1, hlay _ _ g1'] at he
    have := S.inj id id' r0 r0' g2 g2' hli hlj he
    subst this
    exact hnd i j id g1 g1'
  · obtain ⟨id, r0, g1, g2, rfl⟩ := hget j r hj hl
    rw [Row.ren_live] at hl
    rw [hlay _ _ g1]
    exact S.notO id r0 g2 hl
  · obtain ⟨r', hr', hx⟩ := F.dom id r hlt hr
    rcases rangeM_spec f1 id hlt with hid | hid
    · rw [Nat.zero_add] at hid
      refine ⟨_, hput id id r' hid hr', fun hl => ?_⟩
      rw [Row.ren_live] at hl
      obtain ⟨a1, a2, a3, a4, a5, a6⟩ := hx hl
      exact ⟨a1, by rw [hlay _ _ hid]; exact a2, by rw [Row.ren_isMap]; exact a3, by rw [Row.ren_sz]; exact a4, by rw [Row.ren_len]; exact a5, a6⟩
    · exact ⟨.gone, by rw [hL_get, outM_get, hid]; rfl, fun hl => by cases hl⟩
  · obtain ⟨id, r0, g1, g2, rfl⟩ := hget j r hj hl
    rw [Row.ren_live] at hl
    rw [hlay _ _ g1]
    exact F.own id r0 g2 hl

end

def renS (f : Nat → Option Nat) : List (Nat × AV) → List (Nat × AV)
  | [] => []
  | (t, a) :: l => (t, a.ren f) :: renS f l

theorem renS_mem {f : Nat → Option Nat} : ∀ {l : List (Nat × AV)} {t : Nat} {a : AV}, (t, a) ∈ renS f l → ∃ b, (t, b) ∈ l ∧ a = b.ren f
  | [], t, a, h => by cases h
  | (u, b) :: l, t, a, h => by
    simp only [renS, List.mem_cons, Prod.mk.injEq] at h
    rcases h with ⟨rfl, rfl⟩ | h
    · exact ⟨b, by simp, rfl⟩
    · obtain ⟨c, h1, h2⟩ := renS_mem h
      exact ⟨c, List.mem_cons_of_mem _ h1, h2⟩

section
variable {P : Program} {G : Env}

/-- What a loop does in some rounds; the rows from number k on are laid anew. -/
def LoopK (P : Program) (G : Env) (k n : Nat) (c : Code) (vals : List (Nat × AV)) (H : List Row) (ex : AExit) (vals' : List (Nat × AV)) (H' : List Row) : Prop :=
  ∃ m, ∀ (O : Nat → Prop) (ρ : Lay) (a : Act) (w : World), Sim G ρ (hL H) O w → a.tmps.size = n → (∀ t av, (t, av) ∈ vals → VR ρ (hL H) O w av (a.tmps.getD t undef)) →
    Code.rounds P c (fun e a' w' => ∃ ρ' O', e = ex.toExit ∧ a'.tmps.size = n ∧ a'.defers = a.defers ∧
      (∀ t av, (t, av) ∈ vals' → VR ρ' (hL H') O' w' av (a'.tmps.getD t undef)) ∧ Sim G ρ' (hL H') O' w' ∧ FrK k ρ (hL H) O w ρ' (hL H') O' w') m a w

theorem LoopK.exit {k n : Nat} {c : Code} {vals vals' : List (Nat × AV)} {H H' : List Row} {ex : AExit} (h : CodeC P G n c vals H ex vals' H') (hex : ex ≠ .normal) : LoopK P G k n c vals H ex vals' H' :=
  ⟨1, fun O ρ a w S hn hv => by
    rw [rounds_succ]
    refine wp_mono (h O ρ a w S hn hv) fun e a' w' hq => ?_
    obtain ⟨ρ', O', e1, q1, q2, q3, q4, q5⟩ := hq
    subst e1
    cases ex with
    | normal => exact absurd rfl hex
    | exit id => exact ⟨ρ', O', rfl, q1, q2, q3, q4, q5.toK k⟩
    | ret => exact ⟨ρ', O', rfl, q1, q2, q3, q4, q5.toK k⟩⟩

theorem LoopK.step {k n : Nat} {c : Code} {vals vals1 vals' : List (Nat × AV)} {H H1 H' : List Row} {ex : AExit} (M : List (Option Nat)) (h : CodeC P G n c vals H .normal vals1 H1) (hM : packK k M (hL H1) = true)
    (h' : LoopK P G k n c (renS (idxM M 0) vals1) (outM (idxM M 0) (hL H1) M) ex vals' H') : LoopK P G k n c vals H ex vals' H' := by
  obtain ⟨m, h'⟩ := h'
  refine ⟨m + 1, fun O ρ a w S hn hv => ?_⟩
  rw [rounds_succ]
  refine wp_mono (h O ρ a w S hn hv) fun e a' w' hq => ?_
  obtain ⟨ρ1, O1, e1, n1, d1, v1, S1, F1⟩ := hq
  subst e1
  obtain ⟨R, S2, F2⟩ := pack_outK hM S1 (F1.toK k)
  refine rounds_mono (fun e a'' w'' hq => ?_) m a' w' (h' O1 _ a' w' S2 n1 fun t av hm => ?_)
  · obtain ⟨ρ3, O3, e3, n3, d3, v3, S3, F3⟩ := hq
    exact ⟨ρ3, O3, e3, n3, d3.trans d1, v3, S3, F2.trans F3⟩
  · obtain ⟨b, hb, rfl⟩ := renS_mem hm
    exact VR_ren R (v1 t b hb)

theorem LoopK.cast {k n : Nat} {c : Code} {vals vals1 vals' vals2 : List (Nat × AV)} {H H1 H' H2 : List Row} {ex : AExit} (h : LoopK P G k n c vals H ex vals' H') (h1 : vals = vals1) (h2 : H = H1) (h3 : vals' = vals2) (h4 : H' = H2) :
    LoopK P G k n c vals1 H1 ex vals2 H2 := by subst h1; subst h2; subst h3; subst h4; exact h

def noneM : Nat → Nat → List (Option Nat) → Bool
  | 0, 0, _ => true
  | 0, n + 1, none :: l => noneM 0 n l
  | k + 1, n + 1, _ :: l => noneM k n l
  | _, _, _ => false

theorem noneM_spec : ∀ {k n : Nat} {M : List (Option Nat)}, noneM k n M = true → ∀ i, k ≤ i → i < n → M[i]? = some none
  | 0, 0, M, _, i, _, hi => by omega
  | 0, n + 1, none :: l, h, i, _, hi => by
    cases i with
    | zero => rfl
    | succ i => rw [List.getElem?_cons_succ]; exact noneM_spec (k := 0) (n := n) h i (Nat.zero_le _) (by omega)
  | 0, n + 1, some x :: l, h, i, _, hi => by simp [noneM] at h
  | 0, n + 1, [], h, i, _, hi => by simp [noneM] at h
  | k + 1, n + 1, x :: l, h, i, hk, hi => by
    cases i with
    | zero => omega
    | succ i => rw [List.getElem?_cons_succ]; exact noneM_spec (k := k) (n := n) h i (by omega) (by omega)
  | k + 1, 0, M, h, i, hk, hi => by omega
  | k + 1, n + 1, [], h, i, hk, hi => by simp [noneM] at h

/-- The whole loop: rows below k keep their numbers, the others that came in are gone, what is left comes behind. -/
theorem LoopK.code {k n : Nat} {c : Code} {vals vals' : List (Nat × AV)} {H H' : List Row} {ex : AExit} (M : List (Option Nat)) (h : LoopK P G k n c vals H ex vals' H') (hM : packK k M (hL H') = true)
    (hN : noneM k H.length M = true) : CodeC P G n (.loop c) vals H ex (renS (idxM M 0) vals') (outM (idxM M 0) (hL H') M) := by
  obtain ⟨m, h⟩ := h
  refine fun O ρ a w S hn hv => wp_loop_rounds m (rounds_mono (fun e a' w' hq => ?_) m a w (h O ρ a w S hn hv))
  obtain ⟨ρ1, O1, e1, n1, d1, v1, S1, F1⟩ := hq
  obtain ⟨R, S2, F2⟩ := pack_outK hM S1 F1
  refine ⟨_, O1, e1, n1, d1, fun t av hm => ?_, S2, ⟨F2.os, F2.tape, F2.output, F2.size, F2.keep, fun id r hr => ?_, F2.own, F2.old, F2.oldnew⟩⟩
  · obtain ⟨b, hb, rfl⟩ := renS_mem hm
    exact VR_ren R (v1 t b hb)
  · by_cases hk : id < k
    · exact F2.dom id r hk hr
    · have hlt : id < H.length := by
        rw [hL_get] at hr
        exact (List.getElem?_eq_some_iff.1 hr).1
      exact ⟨.gone, by rw [hL_get, outM_get, noneM_spec hN id (by omega) hlt]; rfl, fun hl => by cases hl⟩

theorem CodeC.cast {n : Nat} {c : Code} {vals vals1 vals' vals2 : List (Nat × AV)} {H H1 H' H2 : List Row} {ex : AExit} (h : CodeC P G n c vals H ex vals' H') (h1 : vals = vals1) (h2 : H = H1) (h3 : vals' = vals2) (h4 : H' = H2) :
    CodeC P G n c vals1 H1 ex vals2 H2 := by subst h1; subst h2; subst h3; subst h4; exact h

theorem LoopC.toK {n : Nat} {c : Code} {vals vals' : List (Nat × AV)} {H H' : List Row} {ex : AExit} (k : Nat) (h : LoopC P G n c vals H ex vals' H') : LoopK P G k n c vals H ex vals' H' := by
  obtain ⟨m, h⟩ := h
  refine ⟨m, fun O ρ a w S hn hv => rounds_mono (fun e a' w' hq => ?_) m a w (h O ρ a w S hn hv)⟩
  obtain ⟨ρ', O', e1, q1, q2, q3, q4, q5⟩ := hq
  exact ⟨ρ', O', e1, q1, q2, q3, q4, q5.toK k⟩
end
end Go.Ax
/-
  An abstract machine for Go functions (part 27): slices of whole numbers that came in.
-/
set_option linter.unusedVariables false
set_option linter.unusedSimpArgs false
namespace Go.Ax
open Go.RowKit

theorem DR_ro {O : Nat → Prop} {w : World} {sz n : Nat} {get get' : Nat → List AV} {v : Value} (h : ∀ i, i < n → get i = get' i) (hd : DR O w (.ro sz n get) v) : DR O w (.ro sz n get') v := by
  cases hd with
  | ro val h1 h2 h3 h4 h5 h6 h7 =>
    exact .ro val h1 h2 h3 h4 (fun i hi => by rw [← h i hi]; exact h5 i hi) (fun i j c hi hc => h6 i j c hi (by rw [h i hi]; exact hc)) (fun i j c hi hc => h7 i j c hi (by rw [h i hi]; exact hc))
  | ronil => exact .ronil

theorem Le_ro {sz n : Nat} {get get' : Nat → List AV} (h : ∀ i, i < n → get i = get' i) : Le (.ro sz n get) (.ro sz n get') := fun ρ hp O w v hv => by
  cases hv with
  | dr hd => exact .dr (DR_ro h hd)

end Go.Ax
/-
  An abstract machine for Go functions (part 28): numbers and bytes.
-/
set_option linter.unusedVariables false
set_option linter.unusedSimpArgs false
set_option maxRecDepth 100000
namespace Go.Ax

def bits : Nat → Bool → List Orc
  | 0, _ => []
  | n + 1, b => .bit b :: bits n b

def zpack (k n : Int) : AV := .agg [.lit (.int .i64 k), .lit (.int .u64 n), .lit (.string .empty), .lit (.int .i64 0), .lit (.slice none 0 0)]

def tpack (t : ByteArray) : AV := .agg [.lit (.int .i64 6), .lit (.int .u64 0), .lit (.string t), .lit (.int .i64 0), .lit (.slice none 0 0)]

def maxN : Nat := 1000000000000

theorem wrap64 {n : Int} (h1 : -9223372036854775808 ≤ n) (h2 : n < 9223372036854775808) : IntKind.i64.wrap n = n := by
  simp only [IntKind.wrap, IntKind.bits, IntKind.signed]
  simp
  omega

theorem wrapU8 (n : Int) : IntKind.u8.wrap n = n % 256 := by
  simp only [IntKind.wrap, IntKind.bits, IntKind.signed]
  simp

/-- The bytes of a number below 2^32, in MessagePack. -/

def encU (v : Nat) : List UInt8 :=
  if v ≤ 127 then [UInt8.ofNat v] else if v ≤ 255 then [204, UInt8.ofNat v] else if v ≤ 65535 then [205, UInt8.ofNat (v / 256), UInt8.ofNat (v % 256)]
  else [206, UInt8.ofNat (v / 16777216), UInt8.ofNat (v / 65536 % 256), UInt8.ofNat (v / 256 % 256), UInt8.ofNat (v % 256)]

def codeB (b : Bool) : UInt8 := if b then 195 else 194

def bitI (b : Bool) : Int := if b then 1 else 0

def bigA : Nat → List UInt8 → Nat
  | u, [] => u
  | u, b :: l => bigA ((u * 256 + b.toNat) % 18446744073709551616) l

theorem wrapU64 (n : Int) : IntKind.u64.wrap n = n % 18446744073709551616 := by
  simp only [IntKind.wrap, IntKind.bits, IntKind.signed]
  simp

theorem or64 (u : Nat) (b : UInt8) : IntKind.u64.wrap (((BitVec.ofInt IntKind.u64.bits (IntKind.u64.wrap ((u : Int) * 2 ^ min (Int.toNat 8) IntKind.u64.bits)) ||| BitVec.ofInt IntKind.u64.bits (IntKind.u64.wrap (b.toNat : Int))).toNat : Nat) : Int)
    = (((u * 256 + b.toNat) % 18446744073709551616 : Nat) : Int) := by
  have hb : b.toNat < 256 := b.toNat_lt
  have e1 : (BitVec.ofInt IntKind.u64.bits (IntKind.u64.wrap ((u : Int) * 2 ^ min (Int.toNat 8) IntKind.u64.bits))).toNat = (u * 256) % 18446744073709551616 := by
    rw [BitVec.toNat_ofInt, wrapU64]
    have : min (Int.toNat 8) IntKind.u64.bits = 8 := by decide
    rw [this]
    have h64 : (2 : Int) ^ IntKind.u64.bits = 18446744073709551616 := by decide
    have h64' : ((2 ^ IntKind.u64.bits : Nat) : Int) = 18446744073709551616 := by decide
    rw [h64']
    omega
  have e2 : (BitVec.ofInt IntKind.u64.bits (IntKind.u64.wrap (b.toNat : Int))).toNat = b.toNat := by
    rw [BitVec.toNat_ofInt, wrapU64]
    have h64' : ((2 ^ IntKind.u64.bits : Nat) : Int) = 18446744073709551616 := by decide
    rw [h64']
    omega
  rw [BitVec.toNat_or, e1, e2]
  have e3 : (u * 256) % 18446744073709551616 = (u % 72057594037927936) <<< 8 := by
    rw [Nat.shiftLeft_eq]
    omega
  rw [e3, ← Nat.shiftLeft_add_eq_or_of_lt (by simpa using hb), Nat.shiftLeft_eq, wrapU64]
  omega

def byteI (x : Int) : UInt8 := UInt8.ofNat (x % 256).toNat

def enc3 (v : Int) : List UInt8 := [209, byteI (v / 256), byteI v]

def enc5 (v : Int) : List UInt8 := [210, byteI (v / 16777216), byteI (v / 65536), byteI (v / 256), byteI v]
/-- The bytes of a number of 32 bits with a sign, in MessagePack. -/

def encI (v : Int) : List UInt8 :=
  if 0 ≤ v then (if v ≤ 127 then [byteI v] else if v ≤ 32767 then enc3 v else enc5 v)
  else if -32 ≤ v then [byteI v] else if -128 ≤ v then [208, byteI v] else if -32768 ≤ v then enc3 v else enc5 v

theorem wrapI64 (n : Int) : IntKind.i64.wrap n = (n + 9223372036854775808) % 18446744073709551616 - 9223372036854775808 := by
  simp only [IntKind.wrap, IntKind.bits, IntKind.signed]
  simp
  omega

theorem sx (v d : Int) (hd : d = 72057594037927936 ∨ d = 281474976710656 ∨ d = 4294967296) (n : Int) (hn : n = v % (18446744073709551616 / d)) (h0 : -(9223372036854775808 / d) ≤ v) (h1 : v < 9223372036854775808 / d) :
    (IntKind.i64.wrap (IntKind.u64.wrap (n * d))).fdiv d = v := by
  rw [Int.fdiv_eq_ediv_of_nonneg _ (by omega), wrapU64, wrapI64]
  rcases hd with rfl | rfl | rfl <;> omega

def kindI (v : Int) : Int := if 0 ≤ v then 3 else 2

theorem byteI_nat (x : Int) : (byteI x).toNat = (x % 256).toNat := by
  simp only [byteI, UInt8.toNat_ofNat']
  omega

def headB (v : Nat) : List UInt8 :=
  if v ≤ 255 then [196, UInt8.ofNat v] else if v ≤ 65535 then [197, UInt8.ofNat (v / 256), UInt8.ofNat (v % 256)]
  else [198, UInt8.ofNat (v / 16777216), UInt8.ofNat (v / 65536 % 256), UInt8.ofNat (v / 256 % 256), UInt8.ofNat (v % 256)]

theorem CodeC.slots {P : Program} {G : Env} {n : Nat} {c : Code} {vals vals0 vals' : List (Nat × AV)} {H H' : List Row} {ex : AExit} (h : CodeC P G n c vals H ex vals' H') (hs : ∀ t a, (t, a) ∈ vals → (t, a) ∈ vals0) : CodeC P G n c vals0 H ex vals' H' :=
  fun O ρ a w S hn hv => h O ρ a w S hn fun t av hm => hv t av (hs t av hm)

def headT (n : Nat) : List UInt8 :=
  if n ≤ 31 then [UInt8.ofNat (160 + n)] else if n ≤ 255 then [217, UInt8.ofNat n] else if n ≤ 65535 then [218, UInt8.ofNat (n / 256), UInt8.ofNat (n % 256)]
  else [219, UInt8.ofNat (n / 16777216), UInt8.ofNat (n / 65536 % 256), UInt8.ofNat (n / 256 % 256), UInt8.ofNat (n % 256)]

def encT (s : List UInt8) : List UInt8 := headT s.length ++ s

theorem wrapU16 (n : Int) : IntKind.u16.wrap n = n % 65536 := by
  simp only [IntKind.wrap, IntKind.bits, IntKind.signed]
  simp
theorem wrapU32 (n : Int) : IntKind.u32.wrap n = n % 4294967296 := by
  simp only [IntKind.wrap, IntKind.bits, IntKind.signed]
  simp
end Go.Ax
/-
  An abstract machine for Go functions (part 29): a deferred function that asks 'recover() != nil' and does nothing where nothing panics.
-/
set_option linter.unusedVariables false
set_option linter.unusedSimpArgs false
namespace Go.Ax

/-- Is it such a function? -/
def idleShape (fn : Func) : Option (Array Oper × Nat × Nat × TypeId × TypeId) :=
  match fn.body with
  | some (.seq (.region _ ops false) (.cond (.tmp t) _ .skip)) =>
    match ops.toList with
    | [o1, o2] =>
      match o1.op, o1.guard, o1.dst, o2.op, o2.guard, o2.dst with
      | .call _, none, some d, .binOp .neq ty (.tmp d') (.const .nilIface) yt, none, some t' =>
        if d = d' ∧ t = t' ∧ d < fn.ntmps ∧ t < fn.ntmps ∧ fn.results = #[] then some (ops, d, t, ty, yt) else none
      | _, _, _, _, _, _ => none
    | _ => none
  | _ => none

end Go.Ax
/-
  An abstract machine for Go functions (part 30): package-level variables that read as known; contracts that come from elsewhere.
-/
set_option linter.unusedVariables false
set_option linter.unusedSimpArgs false
namespace Go.Ax
open Go.RowKit

section
variable {P : Program} {G : Env}

/-- What is known of package-level variables, in a world. -/
def GlobAt (G : Env) (O : Nat → Prop) (w : World) : Prop := ∀ g cs, G g = some cs → O g ∧ ∀ (j : Nat) c, cs[j]? = some c → ∃ v, w.cell? ⟨g, j, none⟩ = some v ∧ DR O w c v

end
end Go.Ax
/-
  An abstract machine for Go functions (part 31): loops that let a row grow; lists laid cell by cell.
-/
set_option linter.unusedVariables false
set_option linter.unusedSimpArgs false
namespace Go.Ax

/-! ### Less known, part by part -/
theorem leAll_at : ∀ {as bs : List AV}, leAll as bs → as.length = bs.length ∧ ∀ (j : Nat) a b, as[j]? = some a → bs[j]? = some b → Le a b
  | [], [], _ => ⟨rfl, fun j a b h => by simp at h⟩
  | x :: as, y :: bs, h => by
    obtain ⟨h1, h2⟩ := leAll_at h.2
    refine ⟨by simp [h1], fun j a b ha hb => ?_⟩
    cases j with
    | zero => simp at ha hb; subst ha; subst hb; exact h.1
    | succ j => simp at ha hb; exact h2 j a b ha hb
  | [], _ :: _, h => h.elim
  | _ :: _, [], h => h.elim

theorem Le_agg {as bs : List AV} (h : leAll as bs) : Le (.agg as) (.agg bs) := fun ρ hp O w v hv => by
  obtain ⟨h1, h2⟩ := leAll_at h
  cases hv with
  | dr hd =>
    cases hd with
    | agg hl hs =>
      refine .agg (by rw [← h1]; exact hl) fun j c v hc hv => ?_
      obtain ⟨hj, -⟩ := List.getElem?_eq_some_iff.1 hc
      have ha : as[j]? = some as[j] := List.getElem?_eq_getElem (by omega)
      exact h2 j _ _ ha hc _ _ _ _ _ (.dr (hs j _ v ha hv))
  | agg hl hs =>
    refine .agg (by rw [← h1]; exact hl) fun j c v hc hv => ?_
    obtain ⟨hj, -⟩ := List.getElem?_eq_some_iff.1 hc
    have ha : as[j]? = some as[j] := List.getElem?_eq_getElem (by omega)
    exact h2 j _ _ ha hc _ _ _ _ _ (hs j _ v ha hv)

theorem Le_tup {as bs : List AV} (h : leAll as bs) : Le (.tup as) (.tup bs) := fun ρ hp O w v hv => by
  obtain ⟨h1, h2⟩ := leAll_at h
  cases hv with
  | dr hd => cases hd
  | tup hl hs =>
    refine .tup (by rw [← h1]; exact hl) fun j c v hc hv => ?_
    obtain ⟨hj, -⟩ := List.getElem?_eq_some_iff.1 hc
    have ha : as[j]? = some as[j] := List.getElem?_eq_getElem (by omega)
    exact h2 j _ _ ha hc _ _ _ _ _ (hs j _ v ha hv)

/-! ### Lists, laid cell by cell -/
structure LCells {α : Type} (C : α → List AV) (s : Nat) : Prop where
  len : ∀ x, (C x).length = s
  ren : ∀ f x, AV.renL f (C x) = C x
  closed : ∀ x, AV.closedL (C x) = true

def flatC {α : Type} (C : α → List AV) (l : List α) : List AV := l.flatMap C

section
variable {α : Type} {C : α → List AV} {s : Nat} (h : LCells C s)
include h
end

/-! ### Loops that let the last row grow -/
section
variable {P : Program} {G : Env}

end
end Go.Ax
/-
  An abstract machine for Go functions (part 32): data that came in, opened field by field: numbers, texts, bytes, slices of whatever opens, structures.
-/
set_option linter.unusedVariables false
set_option linter.unusedSimpArgs false
namespace Go.Ax
open Go.RowKit

/-- Cells, one by one. -/
def DRs (O : Nat → Prop) (w : World) (as : List AV) (vs : List Value) : Prop := as.length = vs.length ∧ ∀ (j : Nat) a v, as[j]? = some a → vs[j]? = some v → DR O w a v

theorem DR_lit {O : Nat → Prop} {w : World} {x v : Value} (h : DR O w (.lit x) v) : v = x := by cases h; rfl

theorem DRs.nil {O : Nat → Prop} {w : World} : DRs O w [] [] := ⟨rfl, fun j a v h => by simp at h⟩
theorem DRs.one {O : Nat → Prop} {w : World} {a : AV} {v : Value} (h : DR O w a v) : DRs O w [a] [v] := ⟨rfl, fun j x y hx hy => by
  cases j with
  | zero => simp at hx hy; subst hx; subst hy; exact h
  | succ j => simp at hx⟩
theorem DRs.get {O : Nat → Prop} {w : World} {a : AV} {v : Value} (h : DRs O w [a] [v]) : DR O w a v := h.2 0 a v rfl rfl
theorem DRs.append {O : Nat → Prop} {w : World} {as bs : List AV} {vs us : List Value} (h1 : DRs O w as vs) (h2 : DRs O w bs us) : DRs O w (as ++ bs) (vs ++ us) := by
  refine ⟨by simp [h1.1, h2.1], fun j a x ha hx => ?_⟩
  by_cases hj : j < as.length
  · rw [List.getElem?_append_left hj] at ha
    rw [List.getElem?_append_left (by rw [← h1.1]; exact hj)] at hx
    exact h1.2 j a x ha hx
  · rw [List.getElem?_append_right (by omega)] at ha
    rw [List.getElem?_append_right (by rw [← h1.1]; omega), ← h1.1] at hx
    exact h2.2 _ a x ha hx

section
variable {H : Type} {enc : TypeId × Value → H} {P : Program} {w : World} {base : Nat} {spare : Nat → Bool} {held : Bool}

abbrev Oin (w : World) : Nat → Prop := fun b => b < w.heap.size

theorem in_int {t : TypeId} {k : IntKind} {fuel : Nat} {cs : List Value} {x : DataW H × List MemPlace} (ht : P.underlying t = some (.int k)) (h : DataW.trod enc P w base spare held fuel t cs = some x) :
    ∃ n : Int, DRs (Oin w) w [.lit (.int k n)] cs ∧ k.min ≤ n ∧ n ≤ k.max := by
  obtain ⟨n, rfl, -, hw⟩ := DataW.trod_int ht h
  simp [Lit.wf] at hw
  exact ⟨n, .one (.lit _), hw.1, hw.2⟩

theorem in_string {t : TypeId} {fuel : Nat} {cs : List Value} {x : DataW H × List MemPlace} (ht : P.underlying t = some .string) (h : DataW.trod enc P w base spare held fuel t cs = some x) :
    ∃ s : ByteArray, DRs (Oin w) w [.lit (.string s)] cs ∧ s.size ≤ maxLen := by
  obtain ⟨s, rfl, -, hs⟩ := DataW.trod_string ht h
  exact ⟨s, .one (.lit _), hs⟩

/-- A slice of whatever opens. -/
theorem in_slice {T : Type} (dflt : T) (C : T → List AV) (Q : T → Prop) {t e : TypeId} {fuel : Nat} {cs : List Value} {x : DataW H × List MemPlace} (ht : P.underlying t = some (.slice e)) (hC : ∀ a, (C a).length = P.cellsOf e)
    (hpos : 0 < P.cellsOf e)
    (hel : ∀ n cs x, n < fuel → DataW.trod enc P w base spare held n e cs = some x → ∃ a : T, DRs (Oin w) w (C a) cs ∧ Q a)
    (h : DataW.trod enc P w base spare held fuel t cs = some x) :
    ∃ (n : Nat) (f : Nat → T), DRs (Oin w) w [.ro (P.cellsOf e) n (fun i => C (f i))] cs ∧ n ≤ maxLen ∧ ∀ i, i < n → Q (f i) := by
  rcases DataW.trod_slice ht h with ⟨rfl, _⟩ | ⟨a, len, cap, elems, rest, n, hn, rfl, _, hb, hl, hm, hlen, hel', hsp, hns⟩
  · exact ⟨0, fun _ => dflt, .one .ronil, Nat.zero_le _, fun i hi => absurd hi (by omega)⟩
  · have each : ∀ i, i < len → ∃ a' : T, ∃ cs, w.cells? base (a.add (i * P.cellsOf e)) (P.cellsOf e) = some cs ∧ DRs (Oin w) w (C a') cs ∧ Q a' := fun i hi => by
      have hy := hel' i hi
      have hi' : i < elems.length := by omega
      rw [List.getElem?_eq_getElem hi', Option.bind_eq_some_iff] at hy
      obtain ⟨cs', hcs, hy'⟩ := hy
      obtain ⟨a', h1, h2⟩ := hel n cs' _ (by omega) hy'
      exact ⟨a', cs', hcs, h1, h2⟩
    let f : Nat → T := fun i => if hi : i < len then Classical.choose (each i hi) else dflt
    have hf : ∀ i (hi : i < len), ∃ cs, w.cells? base (a.add (i * P.cellsOf e)) (P.cellsOf e) = some cs ∧ DRs (Oin w) w (C (f i)) cs ∧ Q (f i) := fun i hi => by
      simp only [f, hi, dite_true]
      exact Classical.choose_spec (each i hi)
    let val : Nat → Nat → Value := fun i j => ((w.cells? base (a.add (i * P.cellsOf e)) (P.cellsOf e)).getD []).getD j undef
    have hcell : ∀ i j c, i < len → (C (f i))[j]? = some c → w.cell? (a.add (i * P.cellsOf e + j)) = some (val i j) ∧ DR (Oin w) w c (val i j) := fun i j c hi hc => by
      obtain ⟨cs, h1, h2, -⟩ := hf i hi
      obtain ⟨hj, -⟩ := List.getElem?_eq_some_iff.1 hc
      have hjc : j < cs.length := by rw [← h2.1]; exact hj
      have hg : cs[j]? = some cs[j] := List.getElem?_eq_getElem hjc
      have hv : val i j = cs[j] := by simp only [val, h1, Option.getD_some, List.getD_eq_getElem?_getD, hg]
      rw [hv]
      refine ⟨?_, h2.2 j c _ hc hg⟩
      have := (World.cells?_some h1).2.2 j (by rw [← hC (f i)]; exact hj)
      rw [Addr.add_add] at this
      rw [this, hg]
    refine ⟨len, f, .one (.ro val (fun hp => ?_) (fun hp => ?_) hl (Nat.le_trans hm (by decide)) (fun i hi => hC (f i)) (fun i j c hi hc => (hcell i j c hi hc).1) (fun i j c hi hc => (hcell i j c hi hc).2)), by omega, fun i hi => ?_⟩
    · have hz : 0 < (C (f 0)).length := by rw [hC]; exact hpos
      have := (hcell 0 0 _ hp (List.getElem?_eq_getElem hz)).1
      rw [show a.add (0 * P.cellsOf e + 0) = a by simp [Addr.add]] at this
      exact World.cell?_spot this
    · have hz : 0 < (C (f 0)).length := by rw [hC]; exact hpos
      have := (hcell 0 0 _ hp (List.getElem?_eq_getElem hz)).1
      rw [show a.add (0 * P.cellsOf e + 0) = a by simp [Addr.add]] at this
      simp only [World.cell?] at this
      apply Classical.byContradiction
      intro hn
      have : w.heap[a.block]? = none := Array.getElem?_eq_none (by simp only [Oin] at hn; omega)
      simp_all
    · obtain ⟨cs, -, -, h3⟩ := hf i hi
      exact h3

theorem in_field {t : TypeId} {fs : Array Field} {fuel : Nat} {cs : List Value} {x : DataW H × List MemPlace} (ht : P.underlying t = some (.struct fs)) (h : DataW.trod enc P w base spare held fuel t cs = some x) :
    ∃ n, fuel = n + 1 ∧ cs.length = P.cellsOf t ∧ ∀ (i : Nat) (f : Field), fs[i]? = some f → ∃ y, DataW.trod enc P w base spare held n f.type ((cs.drop f.offset).take (P.cellsOf f.type)) = some y := by
  obtain ⟨xs, n, rfl, _, hl, hxs, hf⟩ := DataW.trod_struct ht h
  refine ⟨n, rfl, hl, fun i f hi => ?_⟩
  have := hf i f hi
  have hi' : i < xs.length := by rw [hxs]; exact (Array.getElem?_eq_some_iff.1 hi).1
  rw [List.getElem?_eq_getElem hi'] at this
  exact ⟨_, this⟩

end
end Go.Ax
/-
  An abstract machine for Go functions (part 33): small helps for the runs with named truths.
-/
namespace Go.Ax
theorem AC {p : Prop} {l : List Prop} (h : p) (h' : AllP l) : AllP (p :: l) := ⟨h, h'⟩

def nthP : List Prop → Nat → Prop
  | [], _ => True
  | p :: _, 0 => p
  | _ :: l, k + 1 => nthP l k

/-- One of the conditions. -/
theorem getP : ∀ {l : List Prop} (k : Nat), AllP l → nthP l k
  | [], _, _ => trivial
  | _ :: _, 0, h => h.1
  | _ :: _, k + 1, h => getP k h.2

/-! ### Normal forms -/
theorem ofNat_wrap (x : Int) : UInt8.ofNat (IntKind.u8.wrap x).toNat = byteI x := by rw [wrapU8]; rfl

/-! ### Scripts: what a run's oracles are and what it leans on, told once, from its end to its start -/
def Scr (t full : List Orc) (C : List Prop) : Prop := AllP C

def rowsLe : List Row → Prop
  | [] => True
  | r :: l => RowLe r r ∧ rowsLe l

def slotsLe : List (Nat × AV) → Prop
  | [] => True
  | (_, a) :: l => Le a a ∧ slotsLe l

section
variable {P : Program} {G : Env} {t full : List Orc} {C : List Prop}
end

theorem k1 {z b : Bool} (q : b = !z) : z = false → b = true := fun h => by rw [q, h]; rfl
theorem k2 {x y b : Bool} (q : b = (x && y)) (h : x = true) : y = true → b = true := fun g => by rw [q, h, g]; rfl
theorem k3 {x z b : Bool} (q : b = (x && !z)) (h : x = true) : z = false → b = true := fun g => by rw [q, h, g]; rfl
end Go.Ax
