/-
  An abstract machine for Go functions (part 21): pieces of code; whole functions.
-/
import Derived.Test.YtdfefemnlimeeaaDoorAx20
set_option linter.unusedVariables false
set_option linter.unusedSimpArgs false
namespace Go.Ax

section
variable {P : Program} {G : Env}

theorem rangeB_spec : ∀ {n k : Nat} {L : List Nat}, rangeB k n L = true → ∀ i, i < n → L[i]? = some (k + i)
  | 0, k, L, _, i, hi => by omega
  | n + 1, k, [], h, i, hi => by simp [rangeB] at h
  | n + 1, k, x :: L, h, i, hi => by
    simp only [rangeB] at h
    cases hb : Nat.beq x k with
    | false => simp [hb] at h
    | true =>
      simp only [hb, cond_true] at h
      cases i with
      | zero => simp [Nat.eq_of_beq_eq_true hb]
      | succ i => rw [List.getElem?_cons_succ, rangeB_spec h i (by omega)]; congr 1; omega

theorem inHeap_spec {h : Heap} : ∀ {L : List Nat}, inHeap h L = true → ∀ id ∈ L, ∃ r, h id = some r
  | [], _, id, hm => by cases hm
  | x :: L, hi, id, hm => by
    unfold inHeap at hi
    split at hi
    · rename_i r hr
      rcases List.mem_cons.1 hm with rfl | hm
      · exact ⟨r, hr⟩
      · exact inHeap_spec hi id hm
    · cases hi

theorem outRows_get {L : List Nat} {h : Heap} : ∀ (M : List Nat) (k : Nat), (outRows L h M)[k]? = (M[k]?).map fun id => ((h id).getD .gone).ren (idxIn L 0)
  | [], k => by simp [outRows]
  | id :: M, 0 => by simp [outRows]
  | id :: M, k + 1 => by simpa [outRows] using outRows_get M k

theorem outSlots_mem {L : List Nat} {tm : Nat → AV} : ∀ {ts : List Nat} {t : Nat} {a : AV}, (t, a) ∈ outSlots L tm ts → a = (tm t).ren (idxIn L 0)
  | [], t, a, h => by simp [outSlots] at h
  | u :: ts, t, a, h => by
    simp only [outSlots, List.mem_cons, Prod.mk.injEq] at h
    rcases h with ⟨rfl, rfl⟩ | h
    · rfl
    · exact outSlots_mem h

/-- The rows that come out, as those outside number them. -/
theorem fin_out {k : Nat} {L : List Nat} {h h0 : Heap} {ρ ρ0 : Lay} {O O0 : Nat → Prop} {w w0 : World} {H : List Row} (hk : H.length = k) (hh : h0 = hL H) (hf : finOk k L h = true) (S : Sim G ρ h O w)
    (F : Fr ρ0 h0 O0 w0 ρ h O w) :
    RenOk (idxIn L 0) ρ h (layOf ρ L) (hL (outRows L h L)) ∧ Sim G (layOf ρ L) (hL (outRows L h L)) O w ∧ Fr ρ0 h0 O0 w0 (layOf ρ L) (hL (outRows L h L)) O w := by
  simp only [finOk, Bool.and_eq_true] at hf
  obtain ⟨⟨f1, f2⟩, f3⟩ := hf
  have hnd := nodupB_spec f2
  have hget : ∀ j r, hL (outRows L h L) j = some r → ∃ id r0, L[j]? = some id ∧ h id = some r0 ∧ r = r0.ren (idxIn L 0) := fun j r hj => by
    rw [hL_get, outRows_get] at hj
    obtain ⟨id, hid, he⟩ := Option.map_eq_some_iff.1 hj
    obtain ⟨r0, hr0⟩ := inHeap_spec f3 id (List.mem_of_getElem? hid)
    refine ⟨id, r0, hid, hr0, ?_⟩
    rw [hr0] at he
    exact he.symm
  have hput : ∀ j id r0, L[j]? = some id → h id = some r0 → hL (outRows L h L) j = some (r0.ren (idxIn L 0)) := fun j id r0 hj hr0 => by
    rw [hL_get, outRows_get, hj]
    simp [hr0]
  have R : RenOk (idxIn L 0) ρ h (layOf ρ L) (hL (outRows L h L)) := ⟨fun id j r hj hid => by
    obtain ⟨_, h2⟩ := idxIn_spec hj
    rw [Nat.sub_zero] at h2
    refine ⟨_, hput j id r h2 hid, fun hl => ?_⟩
    rw [Row.ren_live] at hl
    exact ⟨hl, layOf_get h2, Row.ren_isMap _ _, Row.ren_sz _ _, by rw [Row.ren_len]; exact Nat.le_refl _⟩⟩
  refine ⟨R, ⟨fun j r hj => ?_, fun i j ri rj hi hj hli hlj he => ?_, fun j r hj hl => ?_, S.lt, S.glob⟩, ⟨F.os, F.tape, F.output, F.size, F.keep, fun id r hr => ?_, fun j r hj hl => ?_, F.old, F.oldnew⟩⟩
  · obtain ⟨id, r0, g1, g2, rfl⟩ := hget j r hj
    exact RowR_ren R (fun _ => layOf_get g1) (S.rows id r0 g2)
  · obtain ⟨id, r0, g1, g2, rfl⟩ := hget i ri hi
    obtain ⟨id', r0', g1', g2', rfl⟩ := hget j rj hj
    rw [Row.ren_live] at hli hlj
    rw [layOf_get g1, layOf_get g1'] at he
    have := S.inj id id' r0 r0' g2 g2' hli hlj he
    subst this
    exact hnd i j id g1 g1'
  · obtain ⟨id, r0, g1, g2, rfl⟩ := hget j r hj
    rw [Row.ren_live] at hl
    rw [layOf_get g1]
    exact S.notO id r0 g2 hl
  · obtain ⟨r', hr', hx⟩ := F.dom id r hr
    have hlt : id < k := by
      subst hh
      rw [hL_get] at hr
      rw [← hk]
      exact (List.getElem?_eq_some_iff.1 hr).1
    have hid := rangeB_spec f1 id hlt
    rw [Nat.zero_add] at hid
    refine ⟨_, hput id id r' hid hr', fun hl => ?_⟩
    rw [Row.ren_live] at hl
    obtain ⟨a1, a2, a3, a4, a5, a6⟩ := hx hl
    exact ⟨a1, by rw [layOf_get hid]; exact a2, by rw [Row.ren_isMap]; exact a3, by rw [Row.ren_sz]; exact a4, by rw [Row.ren_len]; exact a5, a6⟩
  · obtain ⟨id, r0, g1, g2, rfl⟩ := hget j r hj
    rw [Row.ren_live] at hl
    rw [layOf_get g1]
    exact F.own id r0 g2 hl

theorem hL_none {H : List Row} : ∀ i, H.length ≤ i → hL H i = none := fun i hi => by rw [hL_get]; exact List.getElem?_eq_none hi

/-- A PIECE OF CODE. -/
theorem CodeC_of_evPiece {n : Nat} {c : Code} {vals vals' : List (Nat × AV)} {H H' : List Row} {orc : List Orc} {ts : List Nat} {ex : AExit} {C : List Prop} (hm : P.follows .mixedOrders = true)
    (he : evPiece P G n c vals H orc ts = some (ex, vals', H', C)) (hC : AllP C) : CodeC P G n c vals H ex vals' H' := by
  intro O ρ a w S hn hv
  unfold evPiece at he
  split at he
  · rename_i ex' s h1
    split at he
    · rename_i L h2 h3
      cases hb : finOk H.length L s.h with
      | false => simp [hb] at he
      | true =>
        simp only [hb, cond_true, Option.some.injEq, Prod.mk.injEq] at he
        obtain ⟨rfl, rfl, rfl, rfl⟩ := he
        have I : Inv G a.defers ρ O (startC n vals H orc) a w := ⟨S, ⟨hn, fun t => by
          show VR ρ (hL H) O w (slotOf vals t) _
          unfold slotOf
          cases hx : assocT vals t with
          | none => exact .dr (.dead _)
          | some av => exact hv t av (assocT_mem hx)⟩, rfl⟩
        refine wp_mono (evCode_sound hm c _ _ _ ρ O a w h1 hC hL_none I) fun e a' w' ⟨e1, ρ', O', I', F'⟩ => ?_
        have hst := evCode_stat c _ _ _ h1
        obtain ⟨q1, q2, q3⟩ := fin_out rfl rfl hb I'.sim F'
        have hd := I'.defs
        rw [h3] at hd
        refine ⟨_, O', e1, by rw [I'.slots.1]; exact hst.2.1, hd, fun t av hm => ?_, q2, q3⟩
        rw [outSlots_mem hm]
        exact VR_ren q1 (I'.slots.2 t)
    · cases he
  · cases he

theorem argT_get : ∀ (args : List AV) (t : Nat), argT args t = (args[t]?).getD (.lit undef)
  | [], t => by simp [argT]
  | a :: l, 0 => by simp [argT]
  | a :: l, t + 1 => by simpa [argT] using argT_get l t

theorem loadAt_var {t : TypeId} {x y : Value} {w : World} (h : (Instr.loadAt t x).run P w = .ok y w) : ∃ ad, x = .pointer (some ad) ∧ (loadVar t ad).run P w = .ok y w := by
  have hst : ∀ m, (do let a ← (stuck m : Sem Addr); loadVar t a : Sem Value).run P w ≠ .ok y w := fun m e => by simp [stuck, Sem.run] at e
  cases x with
  | pointer p =>
    cases p with
    | none => exact absurd h (hst _)
    | some ad => exact ⟨ad, rfl, by simpa [Instr.loadAt, Instr.sureAddr] using h⟩
  | _ => exact absurd h (hst _)

theorem resE_sound {ρ : Lay} {h : Heap} {O : Nat → Prop} {w : World} {n : Nat} {tm : Nat → AV} {a : Act} (S : Sim G ρ h O w) (hs : Slots ρ h O w n tm a) : ∀ (l : List ResultVar) (vs : List AV) (c : List Prop),
    resE P G tm h l = some (vs, c) → AllP c → ∃ us : List Value, Reads ρ h O w vs us ∧
      (l.mapM (m := Sem) fun | .tmp t => pure (a.tmps.getD t undef) | .cell b t => do loadVar t (← asAddr (a.tmps.getD b undef))).run P w = .ok us w
  | [], vs, c, he, hC => by
    simp [resE] at he
    obtain ⟨rfl, rfl⟩ := he
    exact ⟨[], ⟨rfl, fun j a x h => by simp at h⟩, rfl⟩
  | .tmp t :: l, vs, c, he, hC => by
    simp only [resE] at he
    split at he
    · rename_i vs' c' h1
      simp only [Option.some.injEq, Prod.mk.injEq] at he
      obtain ⟨rfl, rfl⟩ := he
      obtain ⟨us, u1, u2⟩ := resE_sound S hs l vs' c' h1 hC
      refine ⟨a.tmps.getD t undef :: us, Reads.append (as := [tm t]) (vs := [a.tmps.getD t undef]) ⟨rfl, fun j b x hb hx => ?_⟩ u1, ?_⟩
      · cases j with
        | zero => simp only [List.getElem?_cons_zero, Option.some.injEq] at hb hx; subst hb; subst hx; exact hs.2 t
        | succ j => simp at hb
      · rw [List.mapM_cons]
        simp only [pure_bind, Sem.run_bind, u2, Result.andThen_ok, Sem.run_pure]
    · cases he
  | .cell b t :: l, vs, c, he, hC => by
    simp only [resE] at he
    split at he
    · rename_i v c1 vs' c' h0 h1
      simp only [Option.some.injEq, Prod.mk.injEq] at he
      obtain ⟨rfl, rfl⟩ := he
      obtain ⟨hC1, hC2⟩ := AllP_append.1 hC
      obtain ⟨us, u1, u2⟩ := resE_sound S hs l vs' c' h1 hC2
      obtain ⟨y, y1, y2⟩ := load_sound (P := P) S (fun id r h => h) (hs.2 b) h0 hC1
      obtain ⟨ad, hx, hl⟩ := loadAt_var y1
      refine ⟨y :: us, Reads.append (as := [v]) (vs := [y]) ⟨rfl, fun j b x hb hx => ?_⟩ u1, ?_⟩
      · cases j with
        | zero => simp only [List.getElem?_cons_zero, Option.some.injEq] at hb hx; subst hb; subst hx; exact y2
        | succ j => simp at hb
      · rw [List.mapM_cons]
        have hasa : asAddr (a.tmps.getD b undef) = pure ad := by rw [hx]; rfl
        simp only [hasa, pure_bind, Sem.run_bind, hl, u2, Result.andThen_ok, Sem.run_pure]
    · cases he

theorem results_sound {ρ : Lay} {h : Heap} {O : Nat → Prop} {w : World} {n : Nat} {tm : Nat → AV} {a : Act} {fn : Func} {vs : List AV} {c : List Prop} (S : Sim G ρ h O w) (hs : Slots ρ h O w n tm a)
    (he : resE P G tm h fn.results.toList = some (vs, c)) (hC : AllP c) : ∃ v, (results fn a.tmps).run P w = .ok v w ∧ VR ρ h O w (oneOr vs) v := by
  obtain ⟨us, ⟨u0, u1⟩, u2⟩ := resE_sound S hs _ _ _ he hC
  refine ⟨if h : us.toArray.size = 1 then us.toArray[0] else .tuple us.toArray, ?_, ?_⟩
  · unfold results
    rw [Array.mapM_eq_mapM_toList]
    simp only [map_eq_pure_bind, bind_assoc, pure_bind, Sem.run_bind, Sem.run_pure]
    exact (congrArg (fun r => Result.andThen r (fun (a : List Value) w' => Result.ok (if h : a.toArray.size = 1 then a.toArray[0] else Value.tuple a.toArray) w')) u2).trans rfl
  · match vs, us, u0, u1 with
    | [v], [u], _, u1 => exact u1 0 v u rfl rfl
    | [], [], _, u1 => exact .tup rfl fun j a x h => by simp at h
    | v1 :: v2 :: vs, x1 :: x2 :: us, u0, u1 =>
      have : ¬ (x1 :: x2 :: us).toArray.size = 1 := by simp
      rw [dif_neg this]
      exact .tup (by simpa using u0.symm) fun j a x ha hx => u1 j a x ha (by simpa using hx)

/-- A DEFERRED CALL LEAVES THE RESULTS ALONE. -/
theorem leaves_end {fn : Func} {s : St} {a : Act} {ρ : Lay} {O : Nat → Prop} {w : World} {vs : List AV} {c : List Prop} {R : Ending → World → Prop} (I : Inv G [] ρ O s a w) (hi : ∀ p ∈ s.df, IdleD P p.1)
    (he : resE P G s.tm s.h fn.results.toList = some (vs, c)) (hC : AllP c)
    (hR : ∀ v w', Sim G ρ s.h O w' → Fr ρ s.h O w ρ s.h O w' → VR ρ s.h O w' (oneOr vs) v → R (.returned v) w') : Leaves P fn a.tmps R a.defers .returning w := by
  have all : ∀ w' : World, w'.heap = w.heap → w'.os = w.os → w'.tape = w.tape → w'.output = w.output → ∃ v, (results fn a.tmps).run P w' = .ok v w' ∧ R (.returned v) w' := fun w' m1 m2 m3 m4 => by
    have S' := I.sim.same m1 m2 m3 m4
    have F' := Fr.same (ρ := ρ) (h := s.h) (O := O) m1 m2 m3 m4
    obtain ⟨v, v1, v2⟩ := results_sound (P := P) S' (I.slots.mono I.sim F') he hC
    exact ⟨v, v1, hR v w' S' F' v2⟩
  have go : ∀ (df : List (FuncId × List AV)) (ds : List Deferred) (w' : World), DefR [] df ds → (∀ p ∈ df, IdleD P p.1) → w'.heap = w.heap → w'.os = w.os → w'.tape = w.tape → w'.output = w.output →
      Leaves P fn a.tmps R ds .returning w' := by
    intro df
    induction df with
    | nil =>
      intro ds w' hd hi m1 m2 m3 m4
      have : ds = [] := hd
      subst this
      exact all w' m1 m2 m3 m4
    | cons p df ih =>
      intro ds w' hd hi m1 m2 m3 m4
      cases ds with
      | nil => exact hd.elim
      | cons d ds =>
      obtain ⟨⟨cap, htar⟩, hd⟩ := hd
      obtain ⟨⟨fn', k1, k2, k3⟩, hcall⟩ := hi p (by simp)
      refine ⟨by simp, .func p.1, cap, p.1, d.args ++ cap, htar, by rw [htar]; exact run_callFunc_body k1 k2 k3, ?_⟩
      intro c cs hc
      obtain ⟨e, u', w'', fr, ⟨⟨v, he⟩, hu, n1, n2, n3, n4⟩, hcomes, hk, hg⟩ := hcall (d.args ++ cap) w' c cs hc
      subst he; subst hu
      exact ⟨_, _, w'', fr, ih ds w'' hd (fun q hq => hi q (List.mem_cons_of_mem _ hq)) (n1.trans m1) (n2.trans m2) (n3.trans m3) (n4.trans m4), hcomes, hk, hg⟩
  exact go _ _ w I.defs hi rfl rfl rfl rfl

/-- A WHOLE FUNCTION. -/
theorem ACalls_of_evFun {f : FuncId} {fn : Func} {args : List AV} {H H' : List Row} {orc : List Orc} {ret : AV} {C : List Prop} (hm : P.follows .mixedOrders = true) (hf : P.funcs[f]? = some fn)
    (hn : (fn.name == "runtime.NumGoroutine") = false) (he : evFun P G fn args H orc = some (ret, H', C)) (hC : AllP C) : ACalls P G f args H ret H' := by
  unfold evFun at he
  split at he
  · cases he
  · rename_i body hbody
    refine ⟨⟨fn, hf, hn, by rw [hbody]; rfl⟩, fun O ρ w vals S hl hv => ?_⟩
    cases hb : Nat.ble args.length fn.ntmps with
    | false => simp [hb] at he
    | true =>
      simp only [hb, cond_true] at he
      have hb' := Nat.le_of_ble_eq_true hb
      split at he
      · rename_i ex s h1
        have fin : ∀ L, (∀ id, ex ≠ .exit id) → (match resE P G s.tm s.h fn.results.toList with
            | some (vs, c) => bif finOk H.length L s.h then some ((oneOr vs).ren (idxIn L 0), outRows L s.h L, c ++ s.c) else none
            | none => none) = some (ret, H', C) → Calls P f vals.toArray w fun e w' => ∃ v ρ' O', e = .returned v ∧ VR ρ' (hL H') O' w' ret v ∧ Sim G ρ' (hL H') O' w' ∧ Fr ρ (hL H) O w ρ' (hL H') O' w' := fun L hex he => by
          split at he
          · rename_i vs c hres
            cases hfo : finOk H.length L s.h with
            | false => simp [hfo] at he
            | true =>
              simp only [hfo, cond_true, Option.some.injEq, Prod.mk.injEq] at he
              obtain ⟨rfl, rfl, rfl⟩ := he
              obtain ⟨hC1, hC2⟩ := AllP_append.1 hC
              have hst := evCode_stat body _ _ _ h1
              have hidle := (hst.2.2 hC2).2 (fun p hp => by simp [startF] at hp)
              have hgetd : ∀ t, (vals.toArray ++ Array.replicate (fn.ntmps - vals.toArray.size) undef).getD t undef = (vals[t]?).getD undef := fun t => by
                rw [Array.getD_eq_getD_getElem?, Array.getElem?_append]
                simp only [List.size_toArray, List.getElem?_toArray, Array.getElem?_replicate]
                by_cases ht : t < vals.length
                · simp [ht]
                · simp only [ht, if_false]
                  rw [List.getElem?_eq_none (by omega)]
                  split <;> rfl
              have I : Inv G [] ρ O (startF fn.ntmps args H orc) { tmps := vals.toArray ++ Array.replicate (fn.ntmps - vals.toArray.size) undef, defers := [] } w := ⟨S, ⟨by show (vals.toArray ++ Array.replicate (fn.ntmps - vals.toArray.size) undef).size = fn.ntmps; simp; omega, fun t => by
                show VR ρ (hL H) O w (argT args t) _
                rw [argT_get, hgetd]
                by_cases ht : t < args.length
                · have h1 : args[t]? = some args[t] := List.getElem?_eq_some_iff.2 ⟨ht, rfl⟩
                  have h2 : vals[t]? = some (vals[t]'(by omega)) := List.getElem?_eq_some_iff.2 ⟨by omega, rfl⟩
                  rw [h1, h2]
                  exact hv t _ _ h1 h2
                · rw [List.getElem?_eq_none (by omega), List.getElem?_eq_none (by omega)]
                  exact VR.ofLit _⟩, rfl⟩
              refine calls_of_wp_defers hf hbody (wp_mono (evCode_sound hm body _ _ _ ρ O _ w h1 hC2 hL_none I) fun e a' w' ⟨e1, ρ', O', I', F'⟩ => ?_)
              have goal : Leaves P fn a'.tmps (fun e w' => ∃ v ρ' O', e = .returned v ∧ VR ρ' (hL (outRows L s.h L)) O' w' ((oneOr vs).ren (idxIn L 0)) v ∧ Sim G ρ' (hL (outRows L s.h L)) O' w' ∧
                  Fr ρ (hL H) O w ρ' (hL (outRows L s.h L)) O' w') a'.defers .returning w' := leaves_end I' hidle hres hC1 fun v w'' S'' F'' hv'' => by
                obtain ⟨q1, q2, q3⟩ := fin_out rfl rfl hfo S'' (F'.trans F'')
                exact ⟨v, _, O', rfl, VR_ren q1 hv'', q2, q3⟩
              subst e1
              cases ex with
              | normal => exact goal
              | ret => exact goal
              | exit id => exact absurd rfl (hex id)
          · cases he
        cases ex with
        | exit id => simp at he
        | normal =>
          split at he
          · rename_i hbad; cases hbad
          · exact fin _ (fun id h => by cases h) he
          · cases he
        | ret =>
          split at he
          · rename_i hbad; cases hbad
          · exact fin _ (fun id h => by cases h) he
          · cases he
      · cases he

theorem Le.refl (a : AV) : Le a a := fun _ _ _ _ _ h => h
theorem Le.dead (a : AV) : Le a .dead := fun _ _ _ _ v _ => .dr (.dead v)
theorem RowLe.refl (r : Row) : RowLe r r := ⟨rfl, rfl, rfl, rfl, rfl, rfl, rfl, fun j a a' h h' => by rw [h] at h'; cases h'; exact Le.refl a⟩

end
end Go.Ax
