/-
  An abstract machine for Go functions (part 34): a goto forward to a label of the scope around it: the code behind the label stands in the goto's place.
-/
import Derived.Test.YtkbmfpkbegjhcaaDoorAx33
import Derived.ScopeJumps
set_option linter.unusedVariables false
set_option linter.unusedSimpArgs false
namespace Go.Ax
open Go.RowKit

def subG (l : Nat) (r : Code) : Code → Code
  | .goto k => bif Nat.beq k l then r else .goto k
  | .seq a b => .seq (subG l r a) (subG l r b)
  | .cond x a b => .cond x (subG l r a) (subG l r b)
  | .block id c => .block id (subG l r c)
  | c => c

/-- No exit K, no block K; no loops, no scopes. -/
def freshK (K : Nat) : Code → Bool
  | .exit k => !Nat.beq k K
  | .block id c => !Nat.beq id K && freshK K c
  | .seq a b => freshK K a && freshK K b
  | .cond _ a b => freshK K a && freshK K b
  | .loop _ => false
  | .scope _ => false
  | .rangeFunc .. => false
  | _ => true

/-- Straight code: no exits, no loops. -/
def plainC : Code → Bool
  | .skip => true
  | .label _ => true
  | .region .. => true
  | .ret => true
  | .seq a b => plainC a && plainC b
  | .cond _ a b => plainC a && plainC b
  | _ => false

def firstG : Code → Option Nat
  | .goto k => some k
  | .seq a b => match firstG a with | some k => some k | none => firstG b
  | .cond _ a b => match firstG a with | some k => some k | none => firstG b
  | .block _ c => firstG c
  | _ => none

def unS (c : Code) : Code :=
  match firstG c with
  | some l => match findLabel c l with
    | some rest => bif freshK 1000 c && plainC rest then .block 1000 (subG l (.seq rest (.exit 1000)) c) else .scope c
    | none => .scope c
  | none => .scope c

def unJ : Code → Code
  | .seq a b => .seq (unJ a) (unJ b)
  | .scope c => unS c
  | c => c

def noJ (fn : Func) : Func := { fn with body := fn.body.map unJ }

section
variable {P : Program} {G : Env} {B : List Deferred}

theorem plainC_ex : ∀ (c : Code) (s s' : St) (ex : AExit), plainC c = true → evCode P G c s = some (ex, s') → ex = .normal ∨ ex = .ret := by
  intro c
  induction c with
  | skip => intro s s' ex h he; simp [evCode] at he; exact .inl he.1.symm
  | label l => intro s s' ex h he; simp [evCode] at he; exact .inl he.1.symm
  | region id ops draw =>
    intro s s' ex h he
    simp only [evCode] at he
    split at he
    · split at he
      · rename_i s1 fs h1
        cases hb : (!draw || ordersOk ops fs) with
        | false => simp [hb] at he
        | true => simp only [hb, cond_true, Option.some.injEq, Prod.mk.injEq] at he; exact .inl he.1.symm
      · cases he
    · cases he
  | seq x y ih1 ih2 =>
    intro s s' ex h he
    simp only [plainC, Bool.and_eq_true] at h
    simp only [evCode] at he
    split at he
    · exact ih2 _ _ _ h.2 he
    · exact ih1 _ _ _ h.1 he
  | cond x a b ih1 ih2 =>
    intro s s' ex h he
    simp only [plainC, Bool.and_eq_true] at h
    simp only [evCode] at he
    split at he
    · rename_i t o orc' h1 h2
      cases o with
      | true => simp only [cond_true] at he; exact ih1 _ _ _ h.1 he
      | false => simp only [cond_false] at he; exact ih2 _ _ _ h.2 he
    · rename_i t orc' h1 h2
      cases t with
      | true => simp only [cond_true] at he; exact ih1 _ _ _ h.1 he
      | false => simp only [cond_false] at he; exact ih2 _ _ _ h.2 he
    · cases he
  | ret => intro s s' ex h he; simp [evCode] at he; exact .inr he.1.symm
  | _ => intro s s' ex h; simp [plainC] at h

/-- What stands behind a jump: the rest, from a state of the machine. -/
def JumpAt (P : Program) (G : Env) (B : List Deferred) (rest : Code) (K : Nat) (ρ : Lay) (h : Heap) (O : Nat → Prop) (w : World) (ex : AExit) (s' : St) (a' : Act) (w' : World) : Prop :=
  (ex = .exit K ∨ ex = .ret) ∧ ∃ s1, Goes G B ρ h O w s1 a' w' ∧ (∀ i, s1.nx ≤ i → s1.h i = none) ∧ evCode P G (.seq rest (.exit K)) s1 = some (ex, s')

theorem subG_sound (hm : P.follows .mixedOrders = true) (l K : Nat) (rest : Code) (hp : plainC rest = true) : ∀ (c : Code), freshK K c = true → ∀ (s s' : St) (ex : AExit) (ρ : Lay) (O : Nat → Prop) (a : Act) (w : World),
    evCode P G (subG l (.seq rest (.exit K)) c) s = some (ex, s') → AllP s'.c → (∀ i, s.nx ≤ i → s.h i = none) → Inv G B ρ O s a w →
    c.wp P (fun e a' w' => (e = ex.toExit ∧ ex ≠ .exit K ∧ Goes G B ρ s.h O w s' a' w') ∨ (e = .goto l ∧ JumpAt P G B rest K ρ s.h O w ex s' a' w')) a w := by
  intro c
  induction c with
  | seq x y ih1 ih2 =>
    intro h s s' ex ρ O a w he hC hf I
    simp only [freshK, Bool.and_eq_true] at h
    simp only [subG, evCode] at he
    split at he
    · rename_i s1 h1
      have st := evCode_stat (subG l (.seq rest (.exit K)) y) _ _ _ he
      have st1 := evCode_stat (subG l (.seq rest (.exit K)) x) _ _ _ h1
      refine wp_seq (wp_mono (ih1 h.1 _ _ _ ρ O a w h1 (st.2.2 hC).1 hf I) fun e a' w' hq => ?_)
      rcases hq with ⟨e1, _, ρ1, O1, I1, F1⟩ | ⟨_, h2, _⟩
      · subst e1
        refine wp_mono (ih2 h.2 _ _ _ ρ1 O1 a' w' he hC (st1.1 hf) I1) fun e a'' w'' hq => ?_
        rcases hq with ⟨e2, ne, ρ2, O2, I2, F2⟩ | ⟨e2, h3, s2, ⟨ρ2, O2, I2, F2⟩, h4, h5⟩
        · exact .inl ⟨e2, ne, ρ2, O2, I2, F1.trans F2⟩
        · exact .inr ⟨e2, h3, s2, ⟨ρ2, O2, I2, F1.trans F2⟩, h4, h5⟩
      · rcases h2 with h2 | h2 <;> cases h2
    · rename_i hne
      refine wp_seq (wp_mono (ih1 h.1 _ _ _ ρ O a w he hC hf I) fun e a' w' hq => ?_)
      rcases hq with ⟨e1, g⟩ | ⟨e1, g⟩
      · subst e1
        cases ex with
        | normal => exact absurd he (hne s')
        | exit id => exact .inl ⟨rfl, g⟩
        | ret => exact .inl ⟨rfl, g⟩
      · subst e1
        exact .inr ⟨rfl, g⟩
  | cond x p q ih1 ih2 =>
    intro h s s' ex ρ O a w he hC hf I
    simp only [freshK, Bool.and_eq_true] at h
    simp only [subG, evCode] at he
    split at he
    · rename_i t o orc' h1 h2
      have hx := I.slots.eval x
      rw [h1] at hx
      have hv := VR_lit hx
      have I' : ∀ c, Inv G B ρ O { s with c := c :: s.c, orc := orc' } a w := fun c => ⟨I.sim, I.slots, I.defs⟩
      cases o with
      | true =>
        simp only [cond_true] at he
        have ht : t = true := ((evCode_stat _ _ _ _ he).2.2 hC).1.1
        subst ht
        have hh := ih1 h.1 _ _ _ ρ O a w he hC hf (I' _)
        exact wp_cond_true hv hh
      | false =>
        simp only [cond_false] at he
        have ht : t = false := ((evCode_stat _ _ _ _ he).2.2 hC).1.1
        subst ht
        have hh := ih2 h.2 _ _ _ ρ O a w he hC hf (I' _)
        exact wp_cond_false hv hh
    · rename_i t orc' h1 h2
      have hx := I.slots.eval x
      rw [h1] at hx
      have hv := VR_lit hx
      have I' : Inv G B ρ O s a w := ⟨I.sim, I.slots, I.defs⟩
      cases t with
      | true => simp only [cond_true] at he; exact wp_cond_true hv (ih1 h.1 _ _ _ ρ O a w he hC hf I')
      | false => simp only [cond_false] at he; exact wp_cond_false hv (ih2 h.2 _ _ _ ρ O a w he hC hf I')
    · cases he
  | block id c ih =>
    intro h s s' ex ρ O a w he hC hf I
    simp only [freshK, Bool.and_eq_true, Bool.not_eq_true'] at h
    have hK : K ≠ id := fun e => by subst e; simp at h
    simp only [subG, evCode] at he
    split at he
    · rename_i i s1 h1
      cases hb : Nat.beq i id with
      | true =>
        simp only [hb, cond_true, Option.some.injEq, Prod.mk.injEq] at he
        obtain ⟨rfl, rfl⟩ := he
        have hi : i = id := Nat.eq_of_beq_eq_true hb
        refine wp_block (wp_mono (ih h.2 _ _ _ ρ O a w h1 hC hf I) fun e a' w' hq => ?_)
        rcases hq with ⟨e1, ne, g⟩ | ⟨e1, h2, g⟩
        · subst e1
          simp only [AExit.toExit, Exit.inBlock, hi, if_true]
          exact .inl ⟨trivial, by simp, g⟩
        · rcases h2 with h2 | h2
          · cases h2; exact absurd hi hK
          · cases h2
      | false =>
        simp only [hb, cond_false, Option.some.injEq, Prod.mk.injEq] at he
        obtain ⟨rfl, rfl⟩ := he
        refine wp_block (wp_mono (ih h.2 _ _ _ ρ O a w h1 hC hf I) fun e a' w' hq => ?_)
        have hne : i ≠ id := fun h => by subst h; simp at hb
        rcases hq with ⟨e1, g⟩ | ⟨e1, g⟩
        · subst e1
          simp only [AExit.toExit, Exit.inBlock, hne, if_false]
          exact .inl ⟨trivial, g⟩
        · subst e1
          exact .inr ⟨rfl, g⟩
    · rename_i hne
      refine wp_block (wp_mono (ih h.2 _ _ _ ρ O a w he hC hf I) fun e a' w' hq => ?_)
      rcases hq with ⟨e1, g⟩ | ⟨e1, g⟩
      · subst e1
        cases ex with
        | normal => exact .inl ⟨rfl, g⟩
        | exit id' => exact absurd he (hne id' s')
        | ret => exact .inl ⟨rfl, g⟩
      · subst e1
        exact .inr ⟨rfl, g⟩
  | goto k =>
    intro h s s' ex ρ O a w he hC hf I
    simp only [subG] at he
    cases hb : Nat.beq k l with
    | true =>
      have hk : k = l := Nat.eq_of_beq_eq_true hb
      subst hk
      rw [hb] at he
      simp only [cond_true] at he
      refine wp_goto (.inr ⟨rfl, ?_, s, ⟨ρ, O, I, Fr.refl _ _ _ _⟩, hf, he⟩)
      simp only [evCode] at he
      split at he
      · simp only [Option.some.injEq, Prod.mk.injEq] at he; exact .inl he.1.symm
      · rename_i hne
        rcases plainC_ex rest _ _ _ hp he with e | e
        · subst e; exact absurd he (hne s')
        · exact .inr e
    | false => rw [hb] at he; simp [evCode] at he
  | exit id =>
    intro h s s' ex ρ O a w he hC hf I
    simp only [freshK, Bool.not_eq_true'] at h
    simp [subG, evCode] at he
    obtain ⟨rfl, rfl⟩ := he
    exact wp_exit (.inl ⟨rfl, fun e => by cases e; simp at h, ρ, O, I, Fr.refl _ _ _ _⟩)
  | skip => intro h s s' ex ρ O a w he hC hf I; simp [subG, evCode] at he; obtain ⟨rfl, rfl⟩ := he; exact wp_skip (.inl ⟨rfl, by simp, ρ, O, I, Fr.refl _ _ _ _⟩)
  | label k => intro h s s' ex ρ O a w he hC hf I; simp [subG, evCode] at he; obtain ⟨rfl, rfl⟩ := he; exact wp_label (.inl ⟨rfl, by simp, ρ, O, I, Fr.refl _ _ _ _⟩)
  | ret => intro h s s' ex ρ O a w he hC hf I; simp [subG, evCode] at he; obtain ⟨rfl, rfl⟩ := he; exact wp_ret (.inl ⟨rfl, by simp, ρ, O, I, Fr.refl _ _ _ _⟩)
  | region id ops draw =>
    intro h s s' ex ρ O a w he hC hf I
    have hn := plainC_ex (.region id ops draw) _ _ _ rfl he
    refine wp_mono (evCode_sound hm (.region id ops draw) _ _ _ ρ O a w he hC hf I) fun e a' w' ⟨e1, g⟩ => .inl ⟨e1, ?_, g⟩
    rcases hn with rfl | rfl <;> simp
  | loop c ih => intro h; simp [freshK] at h
  | scope c ih => intro h; simp [freshK] at h
  | rangeFunc f ps x y => intro h; simp [freshK] at h
  | refuse why => intro h s s' ex ρ O a w he; simp [subG, evCode] at he

theorem unS_sound (hm : P.follows .mixedOrders = true) (c : Code) (s s' : St) (ex : AExit) (ρ : Lay) (O : Nat → Prop) (a : Act) (w : World)
    (he : evCode P G (unS c) s = some (ex, s')) (hC : AllP s'.c) (hf : ∀ i, s.nx ≤ i → s.h i = none) (I : Inv G B ρ O s a w) :
    (Code.scope c).wp P (fun e a' w' => e = ex.toExit ∧ Goes G B ρ s.h O w s' a' w') a w := by
  unfold unS at he
  split at he
  · rename_i l hl
    split at he
    · rename_i rest hr
      cases hb : (freshK 1000 c && plainC rest) with
      | false => rw [hb] at he; exact evCode_sound hm (.scope c) _ _ _ ρ O a w he hC hf I
      | true =>
        rw [hb] at he
        simp only [cond_true] at he
        simp only [Bool.and_eq_true] at hb
        obtain ⟨hfr, hpl⟩ := hb
        simp only [evCode] at he
        have main : ∀ ex0 s0, evCode P G (subG l (.seq rest (.exit 1000)) c) s = some (ex0, s0) → s0 = s' → (ex0 ≠ .exit 1000 → ex0 = ex) → (ex0 = .exit 1000 → ex = .normal) →
            (Code.scope c).wp P (fun e a' w' => e = ex.toExit ∧ Goes G B ρ s.h O w s' a' w') a w := fun ex0 s0 h1 hs h2 h3 => by
          subst hs
          refine wp_scope_jumps l (fun a' w' => JumpAt P G B rest 1000 ρ s.h O w ex0 s0 a' w') (fun _ _ => 0) hr
            (wp_mono (subG_sound hm l 1000 rest hpl c hfr _ _ _ ρ O a w h1 hC hf I) fun e a' w' hq => ?_) fun a' w' hJ => ?_
          · rcases hq with ⟨e1, ne, g⟩ | ⟨e1, g⟩
            · subst e1
              have := h2 ne
              subst this
              cases ex0 <;> exact ⟨rfl, g⟩
            · subst e1
              exact ⟨rfl, g⟩
          · obtain ⟨hx, s1, ⟨ρ1, O1, I1, F1⟩, hf1, h5⟩ := hJ
            simp only [evCode] at h5
            split at h5
            · rename_i s2 h6
              simp only [Option.some.injEq, Prod.mk.injEq] at h5
              obtain ⟨rfl, rfl⟩ := h5
              refine wp_mono (evCode_sound hm rest _ _ _ ρ1 O1 a' w' h6 hC hf1 I1) fun e a'' w'' ⟨e2, ρ2, O2, I2, F2⟩ => ?_
              subst e2
              exact ⟨by rw [h3 rfl], ρ2, O2, I2, F1.trans F2⟩
            · rename_i hne
              have hr2 : ex0 = .ret := by
                rcases plainC_ex rest _ _ _ hpl h5 with e | e
                · subst e; exact absurd h5 (hne s0)
                · exact e
              subst hr2
              have := h2 (by simp)
              subst this
              refine wp_mono (evCode_sound hm rest _ _ _ ρ1 O1 a' w' h5 hC hf1 I1) fun e a'' w'' ⟨e2, ρ2, O2, I2, F2⟩ => ?_
              subst e2
              exact ⟨rfl, ρ2, O2, I2, F1.trans F2⟩
        split at he
        · rename_i i s1 h1
          cases hb : Nat.beq i 1000 with
          | true =>
            simp only [hb, cond_true, Option.some.injEq, Prod.mk.injEq] at he
            have hi : i = 1000 := Nat.eq_of_beq_eq_true hb
            subst hi
            exact main _ _ h1 he.2 (fun h => absurd rfl h) (fun _ => he.1.symm)
          | false =>
            simp only [hb, cond_false, Option.some.injEq, Prod.mk.injEq] at he
            exact main _ _ h1 he.2 (fun _ => he.1) (fun h => by cases h; simp at hb)
        · rename_i hne
          exact main _ _ he rfl (fun _ => rfl) (fun h => by subst h; exact absurd he (hne _ _))
    · exact evCode_sound hm (.scope c) _ _ _ ρ O a w he hC hf I
  · exact evCode_sound hm (.scope c) _ _ _ ρ O a w he hC hf I

theorem unJ_sound (hm : P.follows .mixedOrders = true) : ∀ (c : Code) (s s' : St) (ex : AExit) (ρ : Lay) (O : Nat → Prop) (a : Act) (w : World), evCode P G (unJ c) s = some (ex, s') → AllP s'.c →
    (∀ i, s.nx ≤ i → s.h i = none) → Inv G B ρ O s a w → c.wp P (fun e a' w' => e = ex.toExit ∧ Goes G B ρ s.h O w s' a' w') a w := by
  intro c
  induction c with
  | seq x y ih1 ih2 =>
    intro s s' ex ρ O a w he hC hf I
    simp only [unJ, evCode] at he
    split at he
    · rename_i s1 h1
      have st := evCode_stat (unJ y) _ _ _ he
      have st1 := evCode_stat (unJ x) _ _ _ h1
      refine wp_seq (wp_mono (ih1 _ _ _ ρ O a w h1 (st.2.2 hC).1 hf I) fun e a' w' ⟨e1, ρ1, O1, I1, F1⟩ => ?_)
      subst e1
      refine wp_mono (ih2 _ _ _ ρ1 O1 a' w' he hC (st1.1 hf) I1) fun e a'' w'' ⟨e2, ρ2, O2, I2, F2⟩ => ⟨e2, ρ2, O2, I2, F1.trans F2⟩
    · rename_i hne
      refine wp_seq (wp_mono (ih1 _ _ _ ρ O a w he hC hf I) fun e a' w' ⟨e1, g⟩ => ?_)
      subst e1
      cases ex with
      | normal => exact absurd he (hne s')
      | exit id => exact ⟨rfl, g⟩
      | ret => exact ⟨rfl, g⟩
  | scope c ih => intro s s' ex ρ O a w he hC hf I; exact unS_sound hm c s s' ex ρ O a w he hC hf I
  | _ => intro s s' ex ρ O a w he hC hf I; exact evCode_sound hm _ s s' ex ρ O a w he hC hf I

theorem ACalls_evJ {f : FuncId} {fn : Func} {args : List AV} {H : List Row} {orc : List Orc} {r : AV × List Row × List Prop} (hm : P.follows .mixedOrders = true) (hf : P.funcs[f]? = some fn)
    (hn : (fn.name == "runtime.NumGoroutine") = false) (he : evFun P G (noJ fn) args H orc = some r) (hC : AllP r.2.2) : ACalls P G f args H r.1 r.2.1 := by
  obtain ⟨ret, H', C⟩ := r
  dsimp only at hC ⊢
  unfold evFun at he
  cases hbody : fn.body with
  | none => simp [noJ, hbody] at he
  | some body =>
    simp only [noJ, hbody, Option.map_some] at he
    refine ⟨⟨fn, hf, hn, by rw [hbody]; rfl⟩, fun O ρ w vals S hl hv => ?_⟩
    cases hb : Nat.ble args.length fn.ntmps with
    | false => simp [hb] at he
    | true =>
      simp only [hb, cond_true] at he
      have hb' := Nat.le_of_ble_eq_true hb
      split at he
      · rename_i ex s h1
        have fin : ∀ L, (∀ id, ex ≠ .exit id) → (match resE P G s.tm s.h fn.results.toList with
            | some (vs, c) => bif finOk H.length L s.h then some ((oneOr vs).ren (idxIn L 0), outRows L s.h L, c ++ s.c) else none
            | none => none) = some (ret, H', C) → Calls P f vals.toArray w fun e w' => ∃ v ρ' O', e = .returned v ∧ VR ρ' (hL H') O' w' ret v ∧ Sim G ρ' (hL H') O' w' ∧ Fr ρ (hL H) O w ρ' (hL H') O' w' := fun L hex he => by
          split at he
          · rename_i vs c hres
            cases hfo : finOk H.length L s.h with
            | false => simp [hfo] at he
            | true =>
              simp only [hfo, cond_true, Option.some.injEq, Prod.mk.injEq] at he
              obtain ⟨rfl, rfl, rfl⟩ := he
              obtain ⟨hC1, hC2⟩ := AllP_append.1 hC
              have hst := evCode_stat (unJ body) _ _ _ h1
              have hidle := (hst.2.2 hC2).2 (fun p hp => by simp [startF] at hp)
              have hgetd : ∀ t, (vals.toArray ++ Array.replicate (fn.ntmps - vals.toArray.size) undef).getD t undef = (vals[t]?).getD undef := fun t => by
                rw [Array.getD_eq_getD_getElem?, Array.getElem?_append]
                simp only [List.size_toArray, List.getElem?_toArray, Array.getElem?_replicate]
                by_cases ht : t < vals.length
                · simp [ht]
                · simp only [ht, if_false]
                  rw [List.getElem?_eq_none (by omega)]
                  split <;> rfl
              have I : Inv G [] ρ O (startF fn.ntmps args H orc) { tmps := vals.toArray ++ Array.replicate (fn.ntmps - vals.toArray.size) undef, defers := [] } w := ⟨S, ⟨by show (vals.toArray ++ Array.replicate (fn.ntmps - vals.toArray.size) undef).size = fn.ntmps; simp; omega, fun t => by
                show VR ρ (hL H) O w (argT args t) _
                rw [argT_get, hgetd]
                by_cases ht : t < args.length
                · have h1 : args[t]? = some args[t] := List.getElem?_eq_some_iff.2 ⟨ht, rfl⟩
                  have h2 : vals[t]? = some (vals[t]'(by omega)) := List.getElem?_eq_some_iff.2 ⟨by omega, rfl⟩
                  rw [h1, h2]
                  exact hv t _ _ h1 h2
                · rw [List.getElem?_eq_none (by omega), List.getElem?_eq_none (by omega)]
                  exact VR.ofLit _⟩, rfl⟩
              refine calls_of_wp_defers hf hbody (wp_mono (unJ_sound hm body _ _ _ ρ O _ w h1 hC2 hL_none I) fun e a' w' ⟨e1, ρ', O', I', F'⟩ => ?_)
              have goal : Leaves P fn a'.tmps (fun e w' => ∃ v ρ' O', e = .returned v ∧ VR ρ' (hL (outRows L s.h L)) O' w' ((oneOr vs).ren (idxIn L 0)) v ∧ Sim G ρ' (hL (outRows L s.h L)) O' w' ∧
                  Fr ρ (hL H) O w ρ' (hL (outRows L s.h L)) O' w') a'.defers .returning w' := leaves_end I' hidle hres hC1 fun v w'' S'' F'' hv'' => by
                obtain ⟨q1, q2, q3⟩ := fin_out rfl rfl hfo S'' (F'.trans F'')
                exact ⟨v, _, O', rfl, VR_ren q1 hv'', q2, q3⟩
              subst e1
              cases ex with
              | normal => exact goal
              | ret => exact goal
              | exit id => exact absurd rfl (hex id)
          · cases he
        cases ex with
        | exit id => simp at he
        | normal =>
          split at he
          · rename_i hbad; cases hbad
          · exact fin _ (fun id h => by cases h) he
          · cases he
        | ret =>
          split at he
          · rename_i hbad; cases hbad
          · exact fin _ (fun id h => by cases h) he
          · cases he
      · cases he
end
end Go.Ax
