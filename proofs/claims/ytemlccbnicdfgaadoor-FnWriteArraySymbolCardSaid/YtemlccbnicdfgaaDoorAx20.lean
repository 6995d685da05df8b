/-
  An abstract machine for Go functions (part 20): code, pieces of code, whole functions.
-/
import Derived.Test.YtemlccbnicdfgaaDoorAx19
import Derived.Scope
set_option linter.unusedVariables false
set_option linter.unusedSimpArgs false
namespace Go.Ax

section
variable {P : Program} {G : Env}

def Stat (P : Program) (s s' : St) : Prop :=
  ((∀ i, s.nx ≤ i → s.h i = none) → ∀ i, s'.nx ≤ i → s'.h i = none) ∧ s'.n = s.n ∧ (AllP s'.c → AllP s.c ∧ ((∀ p ∈ s.df, IdleD P p.1) → ∀ p ∈ s'.df, IdleD P p.1))

theorem Stat.trans {s s1 s2 : St} (h : Stat P s s1) (h' : Stat P s1 s2) : Stat P s s2 :=
  ⟨fun f => h'.1 (h.1 f), h'.2.1.trans h.2.1, fun c => ⟨(h.2.2 (h'.2.2 c).1).1, fun d => (h'.2.2 c).2 ((h.2.2 (h'.2.2 c).1).2 d)⟩⟩

theorem evOps_stat {ops : Array Oper} : ∀ (l : List Oper) (k : Nat) (s s' : St) (fs : List Foot), evOps P G ops l k s = some (s', fs) →
    ((∀ i, s.nx + 64 * k ≤ i → s.h i = none) → ∀ i, s.nx + 64 * (k + l.length) ≤ i → s'.h i = none) ∧ s'.n = s.n ∧ s'.nx = s.nx ∧ (AllP s'.c → AllP s.c ∧ ((∀ p ∈ s.df, IdleD P p.1) → ∀ p ∈ s'.df, IdleD P p.1))
  | [], k, s, s', fs, he => by
    simp [evOps] at he
    obtain ⟨rfl, rfl⟩ := he
    exact ⟨fun h => by simpa using h, rfl, rfl, fun c => ⟨c, fun d => d⟩⟩
  | o :: l, k, s, s', fs, he => by
    unfold evOps at he
    split at he
    · split at he
      · cases hd : dstOk s.n o.dst with
        | false => simp [hd] at he
        | true =>
          simp only [hd, cond_true] at he
          obtain ⟨⟨s2, fs2⟩, h1, h2⟩ := Option.map_eq_some_iff.1 he
          simp only [Prod.mk.injEq] at h2
          obtain ⟨rfl, rfl⟩ := h2
          obtain ⟨q1, q2, q3, q4⟩ := evOps_stat l (k + 1) _ _ _ h1
          refine ⟨fun hf i hi => q1 (fun i hi => hf i (by simp at hi; omega)) i (by simp at hi ⊢; omega), q2, q3, fun c => ⟨(q4 c).1.2, fun d => (q4 c).2 fun p hp => ?_⟩⟩
          rcases List.mem_cons.1 hp with rfl | hp
          · exact (q4 c).1.1
          · exact d p hp
      · cases he
    · split at he
      · rename_i hst
        cases hd : dstOk s.n o.dst with
        | false => simp [hd] at he
        | true =>
          simp only [hd, cond_true] at he
          obtain ⟨⟨s2, fs2⟩, h1, h2⟩ := Option.map_eq_some_iff.1 he
          simp only [Prod.mk.injEq] at h2
          obtain ⟨rfl, rfl⟩ := h2
          obtain ⟨q1, q2, q3, q4⟩ := evOps_stat l (k + 1) _ _ _ h1
          exact ⟨fun hf i hi => q1 (fun i hi => fresh_upd hst hf i (by simp at hi; omega)) i (by simp at hi ⊢; omega), q2, q3, fun c => ⟨(AllP_append.1 (q4 c).1).2, fun d => (q4 c).2 d⟩⟩
      · cases he

theorem backRows_none {L : List Nat} {fr n : Nat} {H' : List Row} {h : Heap} (hL : ∀ id ∈ L, ∃ r, h id = some r) (hf : ∀ i, fr ≤ i → h i = none) (hn : H'.length ≤ n) :
    ∀ i, fr + n ≤ i → (h.upd (backRows L fr 0 H')) i = none := fun i hi => by
  cases hl : lookL (backRows L fr 0 H') i with
  | none => rw [upd_none hl]; exact hf i (by omega)
  | some r =>
    exfalso
    obtain ⟨k, r0, h1, h2, h3⟩ := backRows_spec H' 0 i r hl
    have hlt := (List.getElem?_eq_some_iff.1 h1).1
    rw [Nat.zero_add] at h2
    by_cases hk : k < L.length
    · have hid : L[k]? = some L[k] := List.getElem?_eq_some_iff.2 ⟨hk, rfl⟩
      rw [backTo_lt hid] at h2
      simp at h2
      obtain ⟨r', hr'⟩ := hL _ (List.mem_of_getElem? hid)
      rw [h2, hf i (by omega)] at hr'
      cases hr'
    · rw [backTo_ge (by omega)] at h2
      simp at h2
      omega

theorem loopE_stat {body : Code} {s : St} {orc : List Orc} {L : List Nat} {vals : List (Nat × AV)} {H : List Row} {ex : AExit} {vals' : List (Nat × AV)} {H' : List Row} {ex' : AExit} {s' : St}
    (he : loopE P G body s orc L vals H ex vals' H' = some (ex', s')) : Stat P s s' := by
  unfold loopE at he
  cases hb : (nodupB L && allLive s.h L && Nat.ble L.length H'.length && slotsOk s.n vals) with
  | false => simp [hb] at he
  | true =>
    simp only [hb, cond_true, Option.some.injEq, Prod.mk.injEq] at he
    obtain ⟨rfl, rfl⟩ := he
    simp only [Bool.and_eq_true] at hb
    refine ⟨fun hf => backRows_none (fun id hm => ?_) hf (Nat.le_refl _), rfl, fun c => ⟨c.2.2.2, fun d => d⟩⟩
    obtain ⟨r, hr, _⟩ := allLive_spec hb.1.1.2 id hm
    exact ⟨r, hr⟩

theorem evCode_stat : ∀ (c : Code) (s s' : St) (ex : AExit), evCode P G c s = some (ex, s') → Stat P s s' := by
  intro c
  have triv : ∀ s : St, Stat P s s := fun s => ⟨fun h => h, rfl, fun c => ⟨c, fun d => d⟩⟩
  induction c with
  | skip => intro s s' ex he; simp [evCode] at he; obtain ⟨_, rfl⟩ := he; exact triv s
  | label l => intro s s' ex he; simp [evCode] at he; obtain ⟨_, rfl⟩ := he; exact triv s
  | region id ops draw =>
    intro s s' ex he
    simp only [evCode] at he
    split at he
    · rename_i s1 fs h1
      obtain ⟨q1, q2, q3, q4⟩ := evOps_stat _ _ _ _ _ h1
      cases hb : (!draw || ordersOk ops fs) with
      | false => simp [hb] at he
      | true =>
        simp only [hb, cond_true, Option.some.injEq, Prod.mk.injEq] at he
        obtain ⟨_, rfl⟩ := he
        exact ⟨fun hf i hi => q1 (by simpa using hf) i (by simpa using hi), q2, q4⟩
    · cases he
  | seq x y ih1 ih2 =>
    intro s s' ex he
    simp only [evCode] at he
    split at he
    · rename_i s1 h1; exact (ih1 _ _ _ h1).trans (ih2 _ _ _ he)
    · exact ih1 _ _ _ he
  | cond x a b ih1 ih2 =>
    intro s s' ex he
    simp only [evCode] at he
    split at he
    · rename_i t o orc' h1 h2
      have hpre : ∀ c, Stat P s { s with c := c :: s.c, orc := orc' } := fun c => ⟨fun h => h, rfl, fun k => ⟨k.2, fun d => d⟩⟩
      cases o with
      | true => simp only [cond_true] at he; exact (hpre _).trans (ih1 _ _ _ he)
      | false => simp only [cond_false] at he; exact (hpre _).trans (ih2 _ _ _ he)
    · cases he
  | block id c ih =>
    intro s s' ex he
    simp only [evCode] at he
    split at he
    · rename_i i s1 h1
      cases hb : Nat.beq i id with
      | true => simp only [hb, cond_true, Option.some.injEq, Prod.mk.injEq] at he; obtain ⟨_, rfl⟩ := he; exact ih _ _ _ h1
      | false => simp only [hb, cond_false, Option.some.injEq, Prod.mk.injEq] at he; obtain ⟨_, rfl⟩ := he; exact ih _ _ _ h1
    · exact ih _ _ _ he
  | exit id => intro s s' ex he; simp [evCode] at he; obtain ⟨_, rfl⟩ := he; exact triv s
  | ret => intro s s' ex he; simp [evCode] at he; obtain ⟨_, rfl⟩ := he; exact triv s
  | scope c ih => intro s s' ex he; simp only [evCode] at he; exact ih _ _ _ he
  | loop body ih =>
    intro s s' ex he
    simp only [evCode] at he
    split at he
    · rename_i L vals H ex1 vals' H' orc' h1; exact loopE_stat he
    · cases he
  | _ => intro s s' ex he; simp [evCode] at he

theorem assocT_mem : ∀ {vals : List (Nat × AV)} {t : Nat} {a : AV}, assocT vals t = some a → (t, a) ∈ vals
  | [], t, a, h => by simp [assocT] at h
  | (u, b) :: l, t, a, h => by
    simp only [assocT] at h
    cases hb : Nat.beq u t with
    | true => simp only [hb, cond_true, Option.some.injEq] at h; subst h; rw [Nat.eq_of_beq_eq_true hb]; simp
    | false => simp only [hb, cond_false] at h; exact List.mem_cons_of_mem _ (assocT_mem h)

theorem leSlots_spec {L : List Nat} {tm : Nat → AV} : ∀ {vals : List (Nat × AV)}, leSlots L tm vals → ∀ t a, (t, a) ∈ vals → Le ((tm t).ren (idxIn L 0)) a
  | [], _, t, a, hm => by cases hm
  | (u, b) :: l, ⟨h1, h2⟩, t, a, hm => by
    rcases List.mem_cons.1 hm with he | hm
    · cases he; exact h1
    · exact leSlots_spec h2 t a hm

theorem loop_sound {B : List Deferred} {body : Code} {s : St} {orc : List Orc} {L : List Nat} {vals : List (Nat × AV)} {H : List Row} {ex : AExit} {vals' : List (Nat × AV)} {H' : List Row} {ex' : AExit} {s' : St}
    {ρ : Lay} {O : Nat → Prop} {a : Act} {w : World} (he : loopE P G body s orc L vals H ex vals' H' = some (ex', s')) (hC : AllP s'.c) (hf : ∀ i, s.nx ≤ i → s.h i = none) (I : Inv G B ρ O s a w) :
    (Code.loop body).wp P (fun e a' w' => e = ex'.toExit ∧ Goes G B ρ s.h O w s' a' w') a w := by
  unfold loopE at he
  cases hb : (nodupB L && allLive s.h L && Nat.ble L.length H'.length && slotsOk s.n vals) with
  | false => simp [hb] at he
  | true =>
    simp only [hb, cond_true, Option.some.injEq, Prod.mk.injEq] at he
    obtain ⟨rfl, rfl⟩ := he
    simp only [Bool.and_eq_true] at hb
    obtain ⟨⟨⟨b1, b2⟩, b3⟩, b4⟩ := hb
    have b3' := Nat.le_of_ble_eq_true b3
    obtain ⟨c1, c2, c3, c4⟩ := hC
    have K : SubOk s.h L H := SubOk.of (fun id r h => h) b1 b2 c3
    refine wp_mono (c1 O (layOf ρ L) a w (K.sim I.sim) I.slots.1 fun t av hm => ?_) fun e a' w' hq => ?_
    · exact leSlots_spec c2 t av hm _ _ _ _ _ (VR_ren K.ren (I.slots.2 t))
    · obtain ⟨ρ2, O2, p1, p2, p3, p4, p5, p6⟩ := hq
      obtain ⟨q1, q2, q3⟩ := sub_back K I.sim b3' (fun i i1 _ => hf i i1) p5 p6
      refine ⟨p1, _, O2, ⟨q2, ⟨p2, fun t => ?_⟩, by rw [p3]; exact I.defs⟩, q3⟩
      show VR _ _ _ _ (((assocT vals' t).map (AV.ren (backTo L s.nx))).getD .dead) _
      cases hx : assocT vals' t with
      | none => exact .dr (.dead _)
      | some av => exact VR_ren q1 (p4 t av (assocT_mem hx))

/-- CODE. -/
theorem evCode_sound {B : List Deferred} (hm : P.follows .mixedOrders = true) : ∀ (c : Code) (s s' : St) (ex : AExit) (ρ : Lay) (O : Nat → Prop) (a : Act) (w : World), evCode P G c s = some (ex, s') → AllP s'.c →
    (∀ i, s.nx ≤ i → s.h i = none) → Inv G B ρ O s a w → c.wp P (fun e a' w' => e = ex.toExit ∧ Goes G B ρ s.h O w s' a' w') a w := by
  intro c
  have triv : ∀ (s : St) (ρ : Lay) (O : Nat → Prop) (a : Act) (w : World), Inv G B ρ O s a w → Goes G B ρ s.h O w s a w := fun s ρ O a w I => ⟨ρ, O, I, Fr.refl _ _ _ _⟩
  induction c with
  | skip => intro s s' ex ρ O a w he hC hf I; simp [evCode] at he; obtain ⟨rfl, rfl⟩ := he; exact wp_skip ⟨rfl, triv _ _ _ _ _ I⟩
  | label l => intro s s' ex ρ O a w he hC hf I; simp [evCode] at he; obtain ⟨rfl, rfl⟩ := he; exact wp_label ⟨rfl, triv _ _ _ _ _ I⟩
  | region id ops draw =>
    intro s s' ex ρ O a w he hC hf I
    simp only [evCode] at he
    split at he
    · rename_i s1 fs h1
      cases hb : (!draw || ordersOk ops fs) with
      | false => simp [hb] at he
      | true =>
        simp only [hb, cond_true, Option.some.injEq, Prod.mk.injEq] at he
        obtain ⟨rfl, rfl⟩ := he
        have hgo : ∀ a' w', Goes G B ρ s.h O w s1 a' w' → Goes G B ρ s.h O w { s1 with nx := s.nx + 64 * ops.toList.length } a' w' := fun a' w' ⟨ρ', O', I', F'⟩ => ⟨ρ', O', ⟨I'.sim, I'.slots, I'.defs⟩, F'⟩
        cases draw with
        | false => exact wp_region_list (evOps_seq ops.toList 0 s s1 fs ρ O a w h1 hC (by simpa using hf) I fun a' w' g => ⟨rfl, hgo a' w' g⟩).2.2.2
        | true => exact region_any hm h1 (by simpa using hb) hC hf I fun a' w' g => ⟨rfl, hgo a' w' g⟩
    · cases he
  | seq x y ih1 ih2 =>
    intro s s' ex ρ O a w he hC hf I
    simp only [evCode] at he
    split at he
    · rename_i s1 h1
      have st := evCode_stat y _ _ _ he
      have st1 := evCode_stat x _ _ _ h1
      refine wp_seq (wp_mono (ih1 _ _ _ ρ O a w h1 (st.2.2 hC).1 hf I) fun e a' w' ⟨e1, ρ1, O1, I1, F1⟩ => ?_)
      subst e1
      refine wp_mono (ih2 _ _ _ ρ1 O1 a' w' he hC (st1.1 hf) I1) fun e a'' w'' ⟨e2, ρ2, O2, I2, F2⟩ => ⟨e2, ρ2, O2, I2, F1.trans F2⟩
    · rename_i hne
      refine wp_seq (wp_mono (ih1 _ _ _ ρ O a w he hC hf I) fun e a' w' ⟨e1, g⟩ => ?_)
      subst e1
      cases ex with
      | normal => exact absurd he (hne s')
      | exit id => exact ⟨rfl, g⟩
      | ret => exact ⟨rfl, g⟩
  | cond x p q ih1 ih2 =>
    intro s s' ex ρ O a w he hC hf I
    simp only [evCode] at he
    split at he
    · rename_i t o orc' h1 h2
      have hx := I.slots.eval x
      rw [h1] at hx
      have hv := VR_lit hx
      have I' : ∀ c, Inv G B ρ O { s with c := c :: s.c, orc := orc' } a w := fun c => ⟨I.sim, I.slots, I.defs⟩
      cases o with
      | true =>
        simp only [cond_true] at he
        have ht : t = true := ((evCode_stat p _ _ _ he).2.2 hC).1.1
        subst ht
        have hh := ih1 _ _ _ ρ O a w he hC hf (I' _)
        exact wp_cond_true hv hh
      | false =>
        simp only [cond_false] at he
        have ht : t = false := ((evCode_stat q _ _ _ he).2.2 hC).1.1
        subst ht
        have hh := ih2 _ _ _ ρ O a w he hC hf (I' _)
        exact wp_cond_false hv hh
    · cases he
  | block id c ih =>
    intro s s' ex ρ O a w he hC hf I
    simp only [evCode] at he
    split at he
    · rename_i i s1 h1
      cases hb : Nat.beq i id with
      | true =>
        simp only [hb, cond_true, Option.some.injEq, Prod.mk.injEq] at he
        obtain ⟨rfl, rfl⟩ := he
        refine wp_block (wp_mono (ih _ _ _ ρ O a w h1 hC hf I) fun e a' w' ⟨e1, g⟩ => ?_)
        subst e1
        simp only [AExit.toExit, Exit.inBlock, Nat.eq_of_beq_eq_true hb, if_true]
        exact ⟨trivial, g⟩
      | false =>
        simp only [hb, cond_false, Option.some.injEq, Prod.mk.injEq] at he
        obtain ⟨rfl, rfl⟩ := he
        refine wp_block (wp_mono (ih _ _ _ ρ O a w h1 hC hf I) fun e a' w' ⟨e1, g⟩ => ?_)
        subst e1
        have hne : i ≠ id := fun h => by subst h; simp at hb
        simp only [AExit.toExit, Exit.inBlock, hne, if_false]
        exact ⟨trivial, g⟩
    · rename_i hne
      refine wp_block (wp_mono (ih _ _ _ ρ O a w he hC hf I) fun e a' w' ⟨e1, g⟩ => ?_)
      subst e1
      cases ex with
      | normal => exact ⟨rfl, g⟩
      | exit id' => exact absurd he (hne id' s')
      | ret => exact ⟨rfl, g⟩
  | exit id => intro s s' ex ρ O a w he hC hf I; simp [evCode] at he; obtain ⟨rfl, rfl⟩ := he; exact wp_exit ⟨rfl, triv _ _ _ _ _ I⟩
  | ret => intro s s' ex ρ O a w he hC hf I; simp [evCode] at he; obtain ⟨rfl, rfl⟩ := he; exact wp_ret ⟨rfl, triv _ _ _ _ _ I⟩
  | scope c ih =>
    intro s s' ex ρ O a w he hC hf I
    simp only [evCode] at he
    refine wp_scope_straight (wp_mono (ih _ _ _ ρ O a w he hC hf I) fun e a' w' ⟨e1, g⟩ => ?_)
    subst e1
    cases ex <;> exact ⟨rfl, g⟩
  | loop body ih =>
    intro s s' ex ρ O a w he hC hf I
    simp only [evCode] at he
    split at he
    · rename_i L vals H ex1 vals' H' orc' h1; exact loop_sound he hC hf I
    · cases he
  | _ => intro s s' ex ρ O a w he; simp [evCode] at he

end
end Go.Ax
