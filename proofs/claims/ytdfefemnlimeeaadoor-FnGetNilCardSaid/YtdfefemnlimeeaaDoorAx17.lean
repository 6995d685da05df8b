/-
  An abstract machine for Go functions (part 17): one step of a region; a region in the order of its text.
-/
import Derived.Test.YtdfefemnlimeeaaDoorAx16
set_option linter.unusedVariables false
set_option linter.unusedSimpArgs false
namespace Go.Ax

section
variable {P : Program} {G : Env} {ρ ρ' : Lay} {h hr h' : Heap} {O O' : Nat → Prop} {w w' : World}

/-- The slots of an activation. -/
def Slots (ρ : Lay) (h : Heap) (O : Nat → Prop) (w : World) (n : Nat) (tm : Nat → AV) (a : Act) : Prop :=
  a.tmps.size = n ∧ ∀ t, VR ρ h O w (tm t) (a.tmps.getD t undef)

theorem Slots.mono {n : Nat} {tm : Nat → AV} {a : Act} (S : Sim G ρ h O w) (F : Fr ρ h O w ρ' h' O' w') (hs : Slots ρ h O w n tm a) : Slots ρ' h' O' w' n tm a :=
  ⟨hs.1, fun t => VR_mono S F (hs.2 t)⟩

theorem Slots.put {n : Nat} {tm : Nat → AV} {a : Act} {dst : Option Nat} {v : AV} {x : Value} (hs : Slots ρ h O w n tm a) (hd : dstOk n dst = true) (hv : VR ρ h O w v x) :
    Slots ρ h O w n (putT tm dst v) (a.put dst x) := by
  cases dst with
  | none => exact hs
  | some d =>
    have hlt : d < n := Nat.blt_eq.mp hd
    refine ⟨by simp [Act.put, hs.1], fun t => ?_⟩
    simp only [putT, Act.put]
    cases hb : Nat.beq t d with
    | true =>
      have := Nat.eq_of_beq_eq_true hb
      subst this
      simp only [cond_true]
      rw [Array.getD_eq_getD_getElem?, Array.getElem?_setIfInBounds_self_of_lt (by rw [hs.1]; exact hlt)]
      exact hv
    | false =>
      have hne : d ≠ t := fun e => by subst e; simp at hb
      simp only [cond_false]
      rw [Array.getD_eq_getD_getElem?, Array.getElem?_setIfInBounds_ne hne, ← Array.getD_eq_getD_getElem?]
      exact hs.2 t

theorem Slots.eval {n : Nat} {tm : Nat → AV} {a : Act} (hs : Slots ρ h O w n tm a) (x : Operand) : VR ρ h O w (evX tm x) (a.eval x) := by
  cases x with
  | tmp t => exact hs.2 t
  | const v => exact VR.ofLit v
  | global g => exact VR.ofLit _
  | func f => exact VR.ofLit _

theorem restrict_sub (need : List Nat) (h : Heap) : ∀ id r, restrict need h id = some r → h id = some r := fun id r hh => by
  unfold restrict at hh
  cases hb : elemB need id with
  | true => simpa [hb] using hh
  | false => simp [hb] at hh

theorem wantedP {ops : Array Oper} {j d : Nat} {want p bb : Bool} {a : Act} (hd : (ops[j]?).bind (·.dst) = some d) (hv : VR ρ h O w (.opt p (.lit (.bool bb))) (a.tmps.getD d undef)) :
    (yielded ops a.tmps j == some want) = (p && (bif want then bb else !bb)) := by
  have hy : ∀ (x : Value), a.tmps.getD d undef = x → (∀ b, x ≠ .bool b) → yielded ops a.tmps j = none := fun x hx hn => by
    simp only [yielded, hd, Option.bind_some]
    cases ht : a.tmps[d]? with
    | none => rfl
    | some y =>
      rw [Array.getD_eq_getD_getElem?, ht] at hx
      simp at hx
      subst hx
      cases y <;> first | rfl | exact absurd rfl (hn _)
  cases p with
  | false => rw [hy _ (VR_opt_undef hv rfl) (fun b e => by cases e)]; rfl
  | true =>
    have hx := VR_lit (VR_opt hv rfl)
    have : yielded ops a.tmps j = some bb := by
      simp only [yielded, hd, Option.bind_some]
      cases ht : a.tmps[d]? with
      | none => rw [Array.getD_eq_getD_getElem?, ht] at hx; simp [undef] at hx
      | some y => rw [Array.getD_eq_getD_getElem?, ht] at hx; simp at hx; subst hx; rfl
    rw [this]
    cases bb <;> cases want <;> rfl

theorem guardE_sound {ops : Array Oper} {o : Oper} {tm : Nat → AV} {a : Act} {orc orc1 : List Orc} {b : Bool} {c : List Prop} (hs : ∀ t ∈ looksAtL ops o, VR ρ h O w (tm t) (a.tmps.getD t undef))
    (he : guardE ops o tm orc = some (b, c, orc1)) (hC : AllP c) : Region.wanted o (yielded ops a.tmps) = b := by
  unfold guardE at he
  unfold Region.wanted
  cases hg : o.guard with
  | none => simp only [hg, Option.some.injEq, Prod.mk.injEq] at he; exact he.1
  | some jw =>
    obtain ⟨j, want⟩ := jw
    simp only [hg] at he ⊢
    rw [nth_eq, Array.getElem?_toList] at he
    cases hd' : (ops[j]?).bind (·.dst) with
    | none => simp [hd'] at he
    | some d =>
      simp only [hd'] at he
      have hv := hs d (by simp [looksAtL, hg, nth_eq, hd'])
      have hy : ∀ (x : Value), a.tmps.getD d undef = x → (∀ b, x ≠ .bool b) → yielded ops a.tmps j = none := fun x hx hn => by
        simp only [yielded, hd', Option.bind_some]
        cases ht : a.tmps[d]? with
        | none => rfl
        | some y =>
          rw [Array.getD_eq_getD_getElem?, ht] at hx
          simp at hx
          subst hx
          cases y <;> first | rfl | exact absurd rfl (hn _)
      split at he
      · rename_i bb htm
        rw [htm] at hv
        have hx := VR_lit hv
        split at he
        · rename_i x orc'
          simp only [Option.some.injEq, Prod.mk.injEq] at he
          obtain ⟨rfl, rfl, rfl⟩ := he
          have hbx : bb = x := hC.1
          subst hbx
          have : yielded ops a.tmps j = some bb := by
            simp only [yielded, hd', Option.bind_some]
            cases ht : a.tmps[d]? with
            | none => rw [Array.getD_eq_getD_getElem?, ht] at hx; simp [undef] at hx
            | some y => rw [Array.getD_eq_getD_getElem?, ht] at hx; simp at hx; subst hx; rfl
          rw [this]
          cases bb <;> cases want <;> rfl
        · cases he
      · rename_i p bb htm
        rw [htm] at hv
        split at he
        · rename_i x orc'
          simp only [Option.some.injEq, Prod.mk.injEq] at he
          obtain ⟨rfl, rfl, rfl⟩ := he
          have hbx : (p && (bif want then bb else !bb)) = x := hC.1
          exact (wantedP hd' hv).trans hbx
        · cases he
      · rename_i vs htm
        rw [htm] at hv
        simp only [Option.some.injEq, Prod.mk.injEq] at he
        obtain ⟨rfl, rfl, rfl⟩ := he
        rw [hy _ (VR_lit hv) (fun b e => by cases e)]
        rfl
      · cases he

/-- What a step comes to. -/
def StepR (P : Program) (G : Env) (ops : Array Oper) (o : Oper) (ρ : Lay) (h : Heap) (O : Nat → Prop) (w : World) (a : Act) (v : AV) (us : List (Nat × Row)) : Prop :=
  (Region.wanted o (yielded ops a.tmps) = true ∧ RunsTo P (execOp a.eval o) w (Post G ρ h O w v us)) ∨ (Region.wanted o (yielded ops a.tmps) = false ∧ VR ρ h O w v undef ∧ us = [])

theorem AllP_append : ∀ {l m : List Prop}, AllP (l ++ m) ↔ AllP l ∧ AllP m
  | [], m => by simp [AllP]
  | p :: l, m => by simp only [List.cons_append, AllP, AllP_append (l := l) (m := m), and_assoc]

theorem forceCs_mem {f : Operand → AV} : ∀ {l : List Operand}, AllP (forceCs (l.map f)) → ∀ x ∈ l, AllP (forceC (f x))
  | [], _, x, h => by cases h
  | y :: l, hC, x, h => by
    simp only [List.map_cons, forceCs] at hC
    obtain ⟨h1, h2⟩ := AllP_append.1 hC
    rcases List.mem_cons.1 h with rfl | h
    · exact h1
    · exact forceCs_mem h2 x h

theorem evOpF_sound {o : Oper} {f : Operand → AV} {g : Operand → Value} {hr : Heap} {fr : Nat} {orc orc' : List Orc} {v : AV} {us : List (Nat × Row)} {c : List Prop} (S : Sim G ρ h O w)
    (hsub : ∀ id r, hr id = some r → h id = some r) (hfr : ∀ i, fr ≤ i → i < fr + 64 → h i = none) (hop : ∀ x ∈ o.op.operands.toList, VR ρ h O w (f x) (g x))
    (he : evOpF P G o f hr fr orc = some (v, us, c, orc')) (hC : AllP c) : RunsTo P (execOp g o) w (Post G ρ h O w v us) := by
  unfold evOpF at he
  split at he
  · rename_i cc a b hop'
    split at he
    · rename_i v' us' k hpk
      simp only [Option.some.injEq, Prod.mk.injEq] at he
      obtain ⟨rfl, rfl, rfl, rfl⟩ := he
      obtain ⟨hC1, hC2⟩ := AllP_append.1 hC
      obtain ⟨dst, op, type, pos, after, guard⟩ := o
      simp only at hop'
      subst hop'
      obtain ⟨u, h1, h2⟩ := pick_sound S (VR_force (hop cc (by simp [Op.operands])) hC2) (hop a (by simp [Op.operands])) (hop b (by simp [Op.operands])) hpk hC1
      exact .inl ⟨u, w, h1, h2⟩
    · cases he
  · split at he
    · rename_i v' us' k orc2 hx
      simp only [Option.some.injEq, Prod.mk.injEq] at he
      obtain ⟨rfl, rfl, rfl, rfl⟩ := he
      obtain ⟨hC1, hC2⟩ := AllP_append.1 hC
      exact evOp_sound S hsub hfr (fun x hx => VR_force (hop x hx) (forceCs_mem hC2 x hx)) hx hC1
    · cases he

theorem bothE_sound {ops : Array Oper} {o : Oper} {tm : Nat → AV} {a : Act} {orc orc1 : List Orc} {g x : Bool} (hs : ∀ t ∈ looksAtL ops o, VR ρ h O w (tm t) (a.tmps.getD t undef))
    (he : bothE ops o tm orc = some (x, g, orc1)) : Region.wanted o (yielded ops a.tmps) = g := by
  unfold bothE at he
  unfold Region.wanted
  split at he
  · cases hg : o.guard with
    | none => simp [hg] at he
    | some jw =>
      obtain ⟨j, want⟩ := jw
      simp only [hg] at he ⊢
      rw [nth_eq, Array.getElem?_toList] at he
      cases hd' : (ops[j]?).bind (·.dst) with
      | none => simp [hd'] at he
      | some d =>
        simp only [hd'] at he
        have hv := hs d (by simp [looksAtL, hg, nth_eq, hd'])
        split at he
        · rename_i bb htm
          simp only [Option.some.injEq, Prod.mk.injEq] at he
          obtain ⟨rfl, rfl, rfl⟩ := he
          rw [htm] at hv
          have := wantedP (p := true) (want := want) hd' (VR.opt (fun _ => hv) (fun e => by cases e))
          simpa using this
        · rename_i p bb htm
          simp only [Option.some.injEq, Prod.mk.injEq] at he
          obtain ⟨rfl, rfl, rfl⟩ := he
          rw [htm] at hv
          exact wantedP hd' hv
        · cases he
  · cases he

theorem noUs_nil {us : List (Nat × Row)} (h : noUs us = true) : us = [] := by
  cases us with
  | nil => rfl
  | cons => simp [noUs] at h

theorem stepE_sound0 {ops : Array Oper} {o : Oper} {fr : Nat} {tm : Nat → AV} {he : Heap} {a : Act} {orc orc' : List Orc} {v : AV} {us : List (Nat × Row)} {c : List Prop} (S : Sim G ρ h O w)
    (hs : ∀ t ∈ looksAtL ops o, VR ρ h O w (tm t) (a.tmps.getD t undef)) (hsub : ∀ id ∈ needOf0 ops o tm orc, ∀ r, he id = some r → h id = some r)
    (hfr : ∀ i, fr ≤ i → i < fr + 64 → h i = none) (hev : stepE0 P G ops o fr tm he orc = some (v, us, c, orc')) (hC : AllP c) : StepR P G ops o ρ h O w a v us := by
  have run : ∀ {orc1 orc2 : List Orc} {v' : AV} {us' : List (Nat × Row)} {c' : List Prop}, (∀ id ∈ needE (evX tm) o orc1, ∀ r, he id = some r → h id = some r) →
      evOpF P G o (evX tm) (restrict (needE (evX tm) o orc1) he) fr orc1 = some (v', us', c', orc2) → AllP c' → RunsTo P (execOp a.eval o) w (Post G ρ h O w v' us') := by
    intro orc1 orc2 v' us' c' hsub hx hC1
    refine evOpF_sound (g := a.eval) S (fun id r hr => ?_) hfr (fun x hx => ?_) hx hC1
    · unfold restrict at hr
      cases hb : elemB (needE (evX tm) o orc1) id with
      | true => simp only [hb, cond_true] at hr; exact hsub id (elemB_iff.1 hb) r hr
      | false => simp [hb] at hr
    · cases x with
      | tmp t => exact hs t (List.mem_append_left _ (List.mem_filterMap.2 ⟨.tmp t, hx, rfl⟩))
      | const v => exact VR.ofLit v
      | global g => exact VR.ofLit _
      | func f => exact VR.ofLit _
  unfold stepE0 at hev
  unfold needOf0 at hsub
  split at hev
  · rename_i x g orc1 hbo
    simp only [hbo] at hsub
    have hw := bothE_sound hs hbo
    split at hev
    · rename_i v' us' c' orc2 hx
      cases hn : noUs us' with
      | false => simp [hn] at hev
      | true =>
        simp only [hn, cond_true, Option.some.injEq, Prod.mk.injEq] at hev
        obtain ⟨rfl, rfl, rfl, rfl⟩ := hev
        have := noUs_nil hn
        subst this
        have hxg := hC.1
        subst hxg
        cases hg : x with
        | true =>
          subst hg
          refine .inl ⟨hw, ?_⟩
          refine (run hsub hx (hC.2.1 rfl)).mono fun x w' ⟨ρ', O', p1, p2, p3⟩ => ⟨ρ', O', .opt (fun _ => p1) (fun e => by cases e), p2, p3⟩
        | false =>
          subst hg
          exact .inr ⟨hw, .opt (fun e => by cases e) (fun _ => rfl), rfl⟩
    · cases hev
  · rename_i hbo
    simp only [hbo] at hsub
    split at hev
    · cases hev
    · rename_i c1 orc1 hg
      simp only [Option.some.injEq, Prod.mk.injEq] at hev
      obtain ⟨rfl, rfl, rfl, rfl⟩ := hev
      exact .inr ⟨guardE_sound hs hg hC, VR.ofLit undef, rfl⟩
    · rename_i c1 orc1 hg
      simp only [hg] at hsub
      split at hev
      · rename_i v' us' c' orc2 hx
        cases hb : usOk (needE (evX tm) o orc1) he fr us' with
        | false => simp [hb] at hev
        | true =>
          simp only [hb, cond_true, Option.some.injEq, Prod.mk.injEq] at hev
          obtain ⟨rfl, rfl, rfl, rfl⟩ := hev
          obtain ⟨hC1, hC2⟩ := AllP_append.1 hC
          exact .inl ⟨guardE_sound hs hg hC2, run hsub hx hC1⟩
      · cases hev

theorem stepE_soundW {ops : Array Oper} {o : Oper} {fr : Nat} {tm : Nat → AV} {he : Heap} {a : Act} {orc orc' : List Orc} {v : AV} {us : List (Nat × Row)} {c : List Prop} (S : Sim G ρ h O w)
    (hs : ∀ t ∈ looksAtL ops o, VR ρ h O w (tm t) (a.tmps.getD t undef)) (hsub : ∀ id ∈ needOf ops o tm orc, ∀ r, he id = some r → h id = some r)
    (hfr : ∀ i, fr ≤ i → i < fr + 64 → h i = none) (hev : stepE P G ops o fr tm he orc = some (v, us, c, orc')) (hC : AllP c) : StepR P G ops o ρ h O w a v us := by
  unfold stepE at hev
  unfold needOf at hsub
  split at hev
  · split at hev
    · rename_i hx
      simp only [Option.some.injEq, Prod.mk.injEq] at hev
      obtain ⟨rfl, rfl, rfl, rfl⟩ := hev
      obtain ⟨h1, h2, -⟩ := AllP_append.1 hC
      subst h2
      exact stepE_sound0 S hs hsub hfr hx h1
    · rename_i hx
      simp only [Option.some.injEq, Prod.mk.injEq] at hev
      obtain ⟨rfl, rfl, rfl, rfl⟩ := hev
      obtain ⟨h1, h2, -⟩ := AllP_append.1 hC
      subst h2
      exact stepE_sound0 S hs hsub hfr hx h1
    · cases hev
  · rename_i hn
    refine stepE_sound0 S hs ?_ hfr hev hC
    have : unname orc = orc := by
      cases orc with
      | nil => rfl
      | cons y l => cases y <;> first | rfl | exact absurd rfl (hn _ _)
    rw [this] at hsub
    exact hsub

theorem stepE_sound {ops : Array Oper} {o : Oper} {fr n : Nat} {tm : Nat → AV} {a : Act} {orc orc' : List Orc} {v : AV} {us : List (Nat × Row)} {c : List Prop} (S : Sim G ρ h O w)
    (hs : Slots ρ h O w n tm a) (hfr : ∀ i, fr ≤ i → i < fr + 64 → h i = none) (he : stepE P G ops o fr tm h orc = some (v, us, c, orc')) (hC : AllP c) : StepR P G ops o ρ h O w a v us :=
  stepE_soundW S (fun t _ => hs.2 t) (fun id _ r hr => hr) hfr he hC

theorem usOk_spec {need : List Nat} {h : Heap} {fr : Nat} : ∀ {us : List (Nat × Row)}, usOk need h fr us = true → ∀ id r, lookL us id = some r → (id ∈ need ∧ (h id).isSome = true) ∨ (fr ≤ id ∧ id < fr + 64)
  | [], _, id, r, hl => by simp [lookL] at hl
  | (i, x) :: us, hu, id, r, hl => by
    unfold usOk at hu
    cases hb : (elemB need i && (h i).isSome || Nat.ble fr i && Nat.blt i (fr + 64)) with
    | false => simp [hb] at hu
    | true =>
      simp only [hb, cond_true] at hu
      simp only [lookL] at hl
      cases hi : Nat.beq i id with
      | true =>
        have := Nat.eq_of_beq_eq_true hi
        subst this
        simp only [Bool.or_eq_true, Bool.and_eq_true] at hb
        rcases hb with ⟨h1, h2⟩ | ⟨h1, h2⟩
        · exact .inl ⟨elemB_iff.1 h1, h2⟩
        · exact .inr ⟨Nat.le_of_ble_eq_true h1, Nat.blt_eq.mp h2⟩
      | false =>
        simp only [hi, cond_false] at hl
        exact usOk_spec hu id r hl

theorem stepE_us0 {ops : Array Oper} {o : Oper} {fr : Nat} {tm : Nat → AV} {orc orc' : List Orc} {v : AV} {us : List (Nat × Row)} {c : List Prop}
    (he : stepE0 P G ops o fr tm h orc = some (v, us, c, orc')) : ∀ id r, lookL us id = some r → (id ∈ needOf0 ops o tm orc ∧ (h id).isSome = true) ∨ (fr ≤ id ∧ id < fr + 64) := by
  unfold stepE0 at he
  unfold needOf0
  split at he
  · split at he
    · rename_i v' us' c' orc2 hx
      cases hn : noUs us' with
      | false => simp [hn] at he
      | true =>
        simp only [hn, cond_true, Option.some.injEq, Prod.mk.injEq] at he
        obtain ⟨rfl, rfl, rfl, rfl⟩ := he
        intro id r hl
        simp [lookL] at hl
    · cases he
  · rename_i hbo
    split at he
    · cases he
    · rename_i c1 orc1 hg
      simp only [Option.some.injEq, Prod.mk.injEq] at he
      obtain ⟨rfl, rfl, rfl, rfl⟩ := he
      intro id r hl
      simp [lookL] at hl
    · rename_i c1 orc1 hg
      split at he
      · rename_i v' us' c' orc2 hev
        cases hb : usOk (needE (evX tm) o orc1) h fr us' with
        | false => simp [hb] at he
        | true =>
          simp only [hb, cond_true, Option.some.injEq, Prod.mk.injEq] at he
          obtain ⟨rfl, rfl, rfl, rfl⟩ := he
          simp only [hbo, hg]
          exact usOk_spec hb
      · cases he

theorem stepE_us {ops : Array Oper} {o : Oper} {fr : Nat} {tm : Nat → AV} {orc orc' : List Orc} {v : AV} {us : List (Nat × Row)} {c : List Prop}
    (he : stepE P G ops o fr tm h orc = some (v, us, c, orc')) : ∀ id r, lookL us id = some r → (id ∈ needOf ops o tm orc ∧ (h id).isSome = true) ∨ (fr ≤ id ∧ id < fr + 64) := by
  unfold stepE at he
  unfold needOf
  split at he
  · split at he
    · rename_i hx
      simp only [Option.some.injEq, Prod.mk.injEq] at he
      obtain ⟨rfl, rfl, rfl, rfl⟩ := he
      exact stepE_us0 hx
    · rename_i hx
      simp only [Option.some.injEq, Prod.mk.injEq] at he
      obtain ⟨rfl, rfl, rfl, rfl⟩ := he
      exact stepE_us0 hx
    · cases he
  · rename_i hn
    have : unname orc = orc := by
      cases orc with
      | nil => rfl
      | cons y l => cases y <;> first | rfl | exact absurd rfl (hn _ _)
    rw [this]
    exact stepE_us0 he

/-- The deferred calls of an activation, ahead of those that were there. -/
def DefR (B : List Deferred) : List (FuncId × List AV) → List Deferred → Prop
  | [], ds => ds = B
  | p :: l, d :: m => (∃ cap, d.target = .fn (.func p.1) cap) ∧ DefR B l m
  | _ :: _, [] => False

/-- Everything at once. -/
structure Inv (G : Env) (B : List Deferred) (ρ : Lay) (O : Nat → Prop) (s : St) (a : Act) (w : World) : Prop where
  sim : Sim G ρ s.h O w
  slots : Slots ρ s.h O w s.n s.tm a
  defs : DefR B s.df a.defers

/-- What lies behind a run from one world to another. -/
def Goes (G : Env) (B : List Deferred) (ρ : Lay) (h : Heap) (O : Nat → Prop) (w : World) (s' : St) (a' : Act) (w' : World) : Prop :=
  ∃ ρ' O', Inv G B ρ' O' s' a' w' ∧ Fr ρ h O w ρ' s'.h O' w'

theorem StepR.wp {ops : Array Oper} {o : Oper} {a : Act} {v : AV} {us : List (Nat × Row)} {n : Nat} {tm : Nat → AV} {Q : Exit → Act → World → Prop} {K : Act → World → Prop} (S : Sim G ρ h O w)
    (hs : Slots ρ h O w n tm a) (hd : dstOk n o.dst = true) (hst : StepR P G ops o ρ h O w a v us)
    (hK : ∀ ρ' O' w' x, Sim G ρ' (h.upd us) O' w' → Slots ρ' (h.upd us) O' w' n (putT tm o.dst v) (a.put o.dst x) → Fr ρ h O w ρ' (h.upd us) O' w' → K (a.put o.dst x) w') :
    if Region.wanted o (yielded ops a.tmps) then o.wp P a w K Q else K (a.put o.dst undef) w := by
  rcases hst with ⟨h1, h2⟩ | ⟨h1, h2, rfl⟩
  · rw [if_pos h1]
    refine h2.wp fun x w' ⟨ρ', O', p1, p2, p3⟩ => hK ρ' O' w' x p2 ((hs.mono S p3).put hd p1) p3
  · rw [if_neg (by simp [h1])]
    exact hK ρ O w undef S (hs.put hd h2) (Fr.refl ρ h O w)

theorem upd_none {h : Heap} {us : List (Nat × Row)} {id : Nat} (h1 : lookL us id = none) : (h.upd us) id = h id := by simp [Heap.upd, h1]

theorem fresh_upd {ops : Array Oper} {o : Oper} {fr : Nat} {tm : Nat → AV} {orc orc' : List Orc} {v : AV} {us : List (Nat × Row)} {c : List Prop}
    (he : stepE P G ops o fr tm h orc = some (v, us, c, orc')) (hfr : ∀ i, fr ≤ i → h i = none) : ∀ i, fr + 64 ≤ i → (h.upd us) i = none := fun i hi => by
  cases hl : lookL us i with
  | none => rw [upd_none hl]; exact hfr i (by omega)
  | some r =>
    rcases stepE_us he i r hl with ⟨h1, h2⟩ | ⟨h1, h2⟩
    · rw [hfr i (by omega)] at h2; cases h2
    · omega

theorem DefR_put {B : List Deferred} {df : List (FuncId × List AV)} {a : Act} {dst : Option Nat} {x : Value} (h : DefR B df a.defers) : DefR B df (a.put dst x).defers := by cases dst <;> exact h

theorem evOps_c {ops : Array Oper} : ∀ (l : List Oper) (k : Nat) (s s' : St) (fs : List Foot), evOps P G ops l k s = some (s', fs) → AllP s'.c → AllP s.c
  | [], k, s, s', fs, he, hC => by simp [evOps] at he; rw [he.1]; exact hC
  | o :: l, k, s, s', fs, he, hC => by
    unfold evOps at he
    split at he
    · split at he
      · cases hd : dstOk s.n o.dst with
        | false => simp [hd] at he
        | true =>
          simp only [hd, cond_true] at he
          obtain ⟨⟨s2, fs2⟩, h1, h2⟩ := Option.map_eq_some_iff.1 he
          simp only [Prod.mk.injEq] at h2
          obtain ⟨rfl, rfl⟩ := h2
          exact (evOps_c l (k + 1) _ _ _ h1 hC).2
      · cases he
    · split at he
      · cases hd : dstOk s.n o.dst with
        | false => simp [hd] at he
        | true =>
          simp only [hd, cond_true] at he
          obtain ⟨⟨s2, fs2⟩, h1, h2⟩ := Option.map_eq_some_iff.1 he
          simp only [Prod.mk.injEq] at h2
          obtain ⟨rfl, rfl⟩ := h2
          exact (AllP_append.1 (evOps_c l (k + 1) _ _ _ h1 hC)).2
      · cases he

/-- A region in the order of its text. -/
theorem evOps_seq {B : List Deferred} {ops : Array Oper} {Q : Exit → Act → World → Prop} : ∀ (l : List Oper) (k : Nat) (s s' : St) (fs : List Foot) (ρ : Lay) (O : Nat → Prop) (a : Act) (w : World),
    evOps P G ops l k s = some (s', fs) → AllP s'.c → (∀ i, s.nx + 64 * k ≤ i → s.h i = none) → Inv G B ρ O s a w →
    (∀ a' w', Goes G B ρ s.h O w s' a' w' → Q .normal a' w') → (∀ i, s.nx + 64 * (k + l.length) ≤ i → s'.h i = none) ∧ s'.n = s.n ∧ s'.nx = s.nx ∧ wpList P ops Q l a w
  | [], k, s, s', fs, ρ, O, a, w, he, hC, hfr, I, hQ => by
    simp [evOps] at he
    obtain ⟨rfl, rfl⟩ := he
    exact ⟨by simpa using hfr, rfl, rfl, hQ a w ⟨ρ, O, I, Fr.refl _ _ _ _⟩⟩
  | o :: l, k, s, s', fs, ρ, O, a, w, he, hC, hfr, I, hQ => by
    unfold evOps at he
    split at he
    · rename_i c hop hgd
      split at he
      · rename_i g hg
        cases hd : dstOk s.n o.dst with
        | false => simp [hd] at he
        | true =>
          simp only [hd, cond_true] at he
          obtain ⟨⟨s2, fs2⟩, h1, h2⟩ := Option.map_eq_some_iff.1 he
          simp only [Prod.mk.injEq] at h2
          obtain ⟨rfl, rfl⟩ := h2
          have hslots : Slots ρ s.h O w s.n (putT s.tm o.dst (.lit undef)) ({ a with defers := a.defers }.put o.dst undef) := I.slots.put hd (VR.ofLit undef)
          -- the deferred call
          have hres : ∃ d cap, (resolve a.eval c o.type).run P w = .ok d w ∧ d.target = .fn (.func g) cap := by
            unfold deferE at hg
            split at hg
            · rename_i x hc
              have hx := I.slots.eval x
              split at hg
              · rename_i g' fs cp hfx
                cases hg
                rw [hfx] at hx
                have := VR_lit hx
                exact ⟨_, cp, by simp only [resolve, hc, this, Deferred.ofValue]; rfl, rfl⟩
              · rename_i g' fs cp hfx
                cases hg
                rw [hfx] at hx
                obtain ⟨vf, vc, hgx, _⟩ := VR_clo hx
                exact ⟨_, vc, by simp only [resolve, hc, hgx, Deferred.ofValue]; rfl, rfl⟩
              · cases hg
            · cases hg
          obtain ⟨d, cap, hrun, htar⟩ := hres
          have I2 : Inv G B ρ O { s with tm := putT s.tm o.dst (.lit undef), df := (g, []) :: s.df, c := IdleD P g :: s.c } ({ a with defers := d :: a.defers }.put o.dst undef) w :=
            ⟨I.sim, by cases hdst : o.dst with | none => rw [hdst] at hslots; exact hslots | some t => rw [hdst] at hslots; exact hslots, by
              have : DefR B ((g, []) :: s.df) (d :: a.defers) := ⟨⟨cap, htar⟩, I.defs⟩
              cases o.dst <;> exact this⟩
          obtain ⟨r1, r2, r3, r4⟩ := evOps_seq l (k + 1) _ s2 fs2 ρ O _ w h1 hC (fun i hi => hfr i (by simp at hi; omega)) I2 hQ
          refine ⟨fun i hi => r1 i (by simp at hi ⊢; omega), r2, r3, ?_⟩
          unfold wpList
          rw [if_pos (by simp [Region.wanted, hgd])]
          refine .inl ?_
          unfold Oper.wp
          have hex : (execOp a.eval o).run P w = .ok (.defer d) w := by
            obtain ⟨dst, op, type, pos, after, guard⟩ := o
            simp only at hop hrun
            subst hop
            simp [execOp, hrun]
          rw [hex]
          exact r4
      · cases he
    · rename_i hnd
      split at he
      · rename_i v us c orc' hst
        cases hd : dstOk s.n o.dst with
        | false => simp [hd] at he
        | true =>
          simp only [hd, cond_true] at he
          obtain ⟨⟨s2, fs2⟩, h1, h2⟩ := Option.map_eq_some_iff.1 he
          simp only [Prod.mk.injEq] at h2
          obtain ⟨rfl, rfl⟩ := h2
          have hcs := evOps_c l (k + 1) _ _ _ h1 hC
          have hc := (AllP_append.1 hcs).1
          have hfr2 : ∀ i, s.nx + 64 * (k + 1) ≤ i → (s.h.upd us) i = none := fun i hi => fresh_upd hst hfr i (by omega)
          have hS := stepE_sound I.sim I.slots (fun i hi _ => hfr i hi) hst hc
          -- what does not hang on the world
          have hstat : (∀ i, s.nx + 64 * (k + (l.length + 1)) ≤ i → s2.h i = none) ∧ s2.n = s.n ∧ s2.nx = s.nx := by
            have stat : ∀ (l : List Oper) (k : Nat) (s s' : St) (fs : List Foot), evOps P G ops l k s = some (s', fs) → (∀ i, s.nx + 64 * k ≤ i → s.h i = none) →
                (∀ i, s.nx + 64 * (k + l.length) ≤ i → s'.h i = none) ∧ s'.n = s.n ∧ s'.nx = s.nx := by
              intro l
              induction l with
              | nil => intro k s s' fs he hf; simp [evOps] at he; obtain ⟨rfl, rfl⟩ := he; exact ⟨by simpa using hf, rfl, rfl⟩
              | cons o l ih =>
                intro k s s' fs he hf
                unfold evOps at he
                split at he
                · split at he
                  · cases hd : dstOk s.n o.dst with
                    | false => simp [hd] at he
                    | true =>
                      simp only [hd, cond_true] at he
                      obtain ⟨⟨s2, fs2⟩, h1, h2⟩ := Option.map_eq_some_iff.1 he
                      simp only [Prod.mk.injEq] at h2
                      obtain ⟨rfl, rfl⟩ := h2
                      obtain ⟨q1, q2, q3⟩ := ih (k + 1) _ _ _ h1 (fun i hi => hf i (by simp at hi; omega))
                      exact ⟨fun i hi => q1 i (by simp at hi ⊢; omega), q2, q3⟩
                  · cases he
                · split at he
                  · rename_i hst'
                    cases hd : dstOk s.n o.dst with
                    | false => simp [hd] at he
                    | true =>
                      simp only [hd, cond_true] at he
                      obtain ⟨⟨s2, fs2⟩, h1, h2⟩ := Option.map_eq_some_iff.1 he
                      simp only [Prod.mk.injEq] at h2
                      obtain ⟨rfl, rfl⟩ := h2
                      obtain ⟨q1, q2, q3⟩ := ih (k + 1) _ _ _ h1 (fun i hi => fresh_upd hst' hf i (by simp at hi; omega))
                      exact ⟨fun i hi => q1 i (by simp at hi ⊢; omega), q2, q3⟩
                  · cases he
            obtain ⟨q1, q2, q3⟩ := stat l (k + 1) _ _ _ h1 hfr2
            exact ⟨fun i hi => q1 i (by simp; omega), q2, q3⟩
          refine ⟨by simpa using hstat.1, hstat.2.1, hstat.2.2, wpList_step fun K hK => ?_⟩
          refine hS.wp I.sim I.slots hd fun ρ' O' w' x p1 p2 p3 => hK _ _ ?_
          refine (evOps_seq l (k + 1) _ s2 fs2 ρ' O' (a.put o.dst x) w' h1 hC hfr2 ⟨p1, p2, DefR_put I.defs⟩ fun a' w'' ⟨ρ2, O2, i2, f2⟩ => hQ a' w'' ⟨ρ2, O2, i2, p3.trans f2⟩).2.2.2
      · cases he

end
end Go.Ax
