/-
  An abstract machine for Go functions (part 19): any order of a region.
-/
import Derived.Test.YtdfefemnlimeeaaDoorAx18
set_option linter.unusedVariables false
set_option linter.unusedSimpArgs false
namespace Go.Ax

theorem countP_lt {p q : Nat → Bool} : ∀ (l : List Nat), (∀ x ∈ l, q x = true → p x = true) → (∃ x ∈ l, p x = true ∧ q x = false) → l.countP q < l.countP p
  | [], _, ⟨x, hx, _⟩ => by cases hx
  | y :: l, himp, ⟨x, hx, h1, h2⟩ => by
    have hle : ∀ (l : List Nat), (∀ x ∈ l, q x = true → p x = true) → l.countP q ≤ l.countP p := by
      intro l
      induction l with
      | nil => intro _; simp
      | cons z l ih =>
        intro h
        have := ih fun x hx => h x (List.mem_cons_of_mem _ hx)
        simp only [List.countP_cons]
        cases hq : q z with
        | false => simp; omega
        | true => simp [h z (by simp) hq]; omega
    simp only [List.countP_cons]
    rcases List.mem_cons.1 hx with rfl | hx
    · have := hle l fun z hz => himp z (List.mem_cons_of_mem _ hz)
      simp [h1, h2]
      omega
    · have := countP_lt l (fun z hz => himp z (List.mem_cons_of_mem _ hz)) ⟨x, hx, h1, h2⟩
      cases hq : q y with
      | false => simp; split <;> omega
      | true => simp [himp y (by simp) hq]; omega

theorem edgeOn_spec : ∀ {l : List Edge} {x : Nat}, x ∈ edgeOn l → ∃ e ∈ l, Region.binds .any e = true ∧ e.on = x
  | [], x, h => by simp [edgeOn] at h
  | e :: l, x, h => by
    simp only [edgeOn] at h
    cases hb : Region.binds .any e with
    | false =>
      simp only [hb, cond_false] at h
      obtain ⟨e', h1, h2⟩ := edgeOn_spec h
      exact ⟨e', List.mem_cons_of_mem _ h1, h2⟩
    | true =>
      simp only [hb, cond_true, List.mem_cons] at h
      rcases h with rfl | h
      · exact ⟨e, by simp, hb, rfl⟩
      · obtain ⟨e', h1, h2⟩ := edgeOn_spec h
        exact ⟨e', List.mem_cons_of_mem _ h1, h2⟩

theorem edgeOn_mem : ∀ {l : List Edge} {e : Edge}, e ∈ l → Region.binds .any e = true → e.on ∈ edgeOn l
  | [], e, h, _ => by cases h
  | e0 :: l, e, h, hb => by
    simp only [edgeOn]
    rcases List.mem_cons.1 h with rfl | h
    · simp [hb]
    · have := edgeOn_mem h hb
      cases Region.binds .any e0 <;> simp [this]

section
variable {P : Program} {G : Env} {ops : Array Oper} {s s' : St} {E : List Ent} {a0 : Act} {Q : Exit → Act → World → Prop}

/-- A region's steps with their orders. -/
structure Reg (P : Program) (G : Env) (ops : Array Oper) (s : St) (E : List Ent) : Prop where
  len : E.length = ops.size
  ok : ∀ (j : Nat) (e : Ent) (o : Oper), E[j]? = some e → ops[j]? = some o → EntOk P G ops s 0 j E e o
  ord : Ordered ops E
  fresh : ∀ i, s.nx ≤ i → s.h i = none

def tmD (E : List Ent) (s : St) (D : Nat → Bool) : Nat → AV := runF (E.map Ent.slotF) 0 D s.tm
def hD (E : List Ent) (s : St) (D : Nat → Bool) : Heap := runF (E.map Ent.rowF) 0 D s.h

theorem Reg.get (R : Reg P G ops s E) {j : Nat} {e : Ent} (hj : E[j]? = some e) : ops[j]? = some e.o := by
  have hlt : j < ops.size := by rw [← R.len]; exact (List.getElem?_eq_some_iff.1 hj).1
  have ho : ops[j]? = some ops[j] := Array.getElem?_eq_getElem hlt
  rw [ho, (R.ok j e _ hj ho).1]

theorem Reg.step (R : Reg P G ops s E) {j : Nat} {e : Ent} (hj : E[j]? = some e) : stepE P G ops e.o (s.nx + 64 * j) e.tm e.h e.orc = some (e.v, e.us, e.c, e.orc') := by
  have := (R.ok j e _ hj (R.get hj)).2.1
  simpa using this

theorem rowF_some {e : Ent} {id : Nat} : (e.rowF id).isSome = true ↔ ∃ r, lookL e.us id = some r := by
  unfold Ent.rowF
  cases lookL e.us id <;> simp

/-- Who writes a number that one step may make. -/
theorem Reg.writer (R : Reg P G ops s E) {k : Nat} {id : Nat} (h1 : s.nx + 64 * k ≤ id) (h2 : id < s.nx + 64 * k + 64) : ∀ (n j : Nat) (e : Ent), j ≤ n → E[j]? = some e → (e.rowF id).isSome = true → j ≠ k →
    ∃ ek, E[k]? = some ek ∧ (ek.rowF id).isSome = true ∧ k < j ∧ id ∈ needOf ops e.o e.tm e.orc := by
  intro n
  induction n with
  | zero =>
    intro j e hjn hj hs hne
    have : j = 0 := by omega
    subst this
    obtain ⟨r, hr⟩ := rowF_some.1 hs
    rcases stepE_us (R.step hj) id r hr with ⟨q1, q2⟩ | ⟨q1, q2⟩
    · exfalso
      have := (R.ok 0 e _ hj (R.get hj)).2.2.2.2.2 id
      rw [runF_none _ 0 _ _ id (fun j' e' hj' hb => by have := Nat.blt_eq.mp hb; omega), R.fresh id (by omega)] at this
      rw [this] at q2
      cases q2
    · omega
  | succ n ih =>
    intro j e hjn hj hs hne
    obtain ⟨r, hr⟩ := rowF_some.1 hs
    rcases stepE_us (R.step hj) id r hr with ⟨q1, q2⟩ | ⟨q1, q2⟩
    · have hh := (R.ok j e _ hj (R.get hj)).2.2.2.2.2 id
      -- someone before wrote it
      have hex : ∃ i ei, i < j ∧ E[i]? = some ei ∧ (ei.rowF id).isSome = true := by
        apply Classical.byContradiction
        intro hn
        have := runF_none (E.map Ent.rowF) 0 (fun i => Nat.blt i (0 + j)) s.h id (fun i e' hi hb => by
          have hlt := Nat.blt_eq.mp hb
          rw [List.getElem?_map] at hi
          obtain ⟨ei, hi', rfl⟩ := Option.map_eq_some_iff.1 hi
          cases hw : ei.rowF id with
          | none => rfl
          | some b => exact absurd ⟨i, ei, by omega, hi', by rw [hw]; rfl⟩ hn)
        rw [this, R.fresh id (by omega)] at hh
        rw [hh] at q2
        cases q2
      obtain ⟨i, ei, hij, hi, hw⟩ := hex
      by_cases hik : i = k
      · subst hik
        exact ⟨ei, hi, hw, hij, q1⟩
      · obtain ⟨ek, g1, g2, g3, _⟩ := ih i ei (by omega) hi hw hik
        exact ⟨ek, g1, g2, by omega, q1⟩
    · omega

/-- What holds when the operations of D have been done. -/
def Done (G : Env) (E : List Ent) (s : St) (ρ0 : Lay) (O0 : Nat → Prop) (w0 : World) (a0 : Act) (D : Nat → Bool) (a : Act) (w : World) : Prop :=
  ∃ ρ O, Sim G ρ (hD E s D) O w ∧ Slots ρ (hD E s D) O w s.n (tmD E s D) a ∧ a.defers = a0.defers ∧ Fr ρ0 s.h O0 w0 ρ (hD E s D) O w

theorem Reg.next (R : Reg P G ops s E) {ρ0 : Lay} {O0 : Nat → Prop} {w0 : World} {D : Nat → Bool} (hcl : Closed ops D) {k : Nat} {e : Ent} (hk : E[k]? = some e) (hDk : D k = false)
    (hed : ∀ x ∈ edgesOf ops k, D x = true) {a : Act} {w : World} (hd : Done G E s ρ0 O0 w0 a0 D a w) {K : Act → World → Prop}
    (hK : ∀ a' w', Done G E s ρ0 O0 w0 a0 (fun j => Nat.beq j k || D j) a' w' → K a' w') : wpOp P ops Q k K a w := by
  obtain ⟨ρ, O, S, hs, hdf, F⟩ := hd
  obtain ⟨g1, g2, g3, g4, g5, g6⟩ := R.ok k e _ hk (R.get hk)
  simp only [Nat.zero_add] at g2 g5 g6
  have pairLow : ∀ j ej, j < k → E[j]? = some ej → D j = true ∨ Apart ops ej e := fun j ej hj hej => (R.ord.pairs j k ej e hj hej hk).imp (fun h => h D hcl hed) id
  have pairHigh : ∀ j ej, k < j → E[j]? = some ej → D j = true → Apart ops e ej := fun j ej hj hej hDj =>
    (R.ord.pairs k j e ej hj hk hej).elim (fun h => by have := h D hcl (hcl j hDj); rw [hDk] at this; cases this) id
  have agreeT : ∀ t ∈ looksAtL ops e.o, tmD E s D t = e.tm t := fun t ht => by
    rw [g5 t]
    refine runF_congr _ 0 _ _ _ _ t (fun j f hj hf => ?_) rfl
    rw [List.getElem?_map] at hj
    obtain ⟨ej, hej, rfl⟩ := Option.map_eq_some_iff.1 hj
    have hdst : ej.o.dst = some t := by
      unfold Ent.slotF at hf
      split at hf
      · cases hf
      · rename_i d hd
        cases hb : Nat.beq t d with
        | false => simp [hb] at hf
        | true => rw [Nat.eq_of_beq_eq_true hb]; exact hd
    simp only [Nat.zero_add]
    rcases Nat.lt_trichotomy j k with hlt | heq | hgt
    · have : Nat.blt j k = true := Nat.blt_eq.mpr hlt
      rw [this]
      exact (pairLow j ej hlt hej).elim (fun h => h) (fun h => absurd ht (h.s1 t hdst))
    · subst heq
      have : Nat.blt j j = false := by cases hb : Nat.blt j j with | false => rfl | true => exact absurd (Nat.blt_eq.mp hb) (by omega)
      rw [this, hDk]
    · have : Nat.blt j k = false := by cases hb : Nat.blt j k with | false => rfl | true => exact absurd (Nat.blt_eq.mp hb) (by omega)
      rw [this]
      cases hDj : D j with
      | false => rfl
      | true => exact absurd ht ((pairHigh j ej hgt hej hDj).s2 t hdst)
  have agreeH : ∀ id ∈ needOf ops e.o e.tm e.orc, hD E s D id = e.h id := fun id hid => by
    rw [g6 id]
    refine runF_congr _ 0 _ _ _ _ id (fun j f hj hf => ?_) rfl
    rw [List.getElem?_map] at hj
    obtain ⟨ej, hej, rfl⟩ := Option.map_eq_some_iff.1 hj
    obtain ⟨r, hr⟩ := rowF_some.1 hf
    have hm := lookL_mem hr
    simp only [Nat.zero_add]
    rcases Nat.lt_trichotomy j k with hlt | heq | hgt
    · have : Nat.blt j k = true := Nat.blt_eq.mpr hlt
      rw [this]
      exact (pairLow j ej hlt hej).elim (fun h => h) (fun h => absurd hid (h.r1 id hm))
    · subst heq
      have : Nat.blt j j = false := by cases hb : Nat.blt j j with | false => rfl | true => exact absurd (Nat.blt_eq.mp hb) (by omega)
      rw [this, hDk]
    · have : Nat.blt j k = false := by cases hb : Nat.blt j k with | false => rfl | true => exact absurd (Nat.blt_eq.mp hb) (by omega)
      rw [this]
      cases hDj : D j with
      | false => rfl
      | true => exact absurd hid ((pairHigh j ej hgt hej hDj).r2 id hm)
  have hfresh : ∀ i, s.nx + 64 * k ≤ i → i < s.nx + 64 * k + 64 → hD E s D i = none := fun i h1 h2 => by
    have := runF_none (E.map Ent.rowF) 0 D s.h i (fun j f hj hDj => by
      rw [List.getElem?_map] at hj
      obtain ⟨ej, hej, rfl⟩ := Option.map_eq_some_iff.1 hj
      rw [Nat.zero_add] at hDj
      cases hw : ej.rowF i with
      | none => rfl
      | some b =>
        exfalso
        have hjk : j ≠ k := fun h => by subst h; rw [hDk] at hDj; cases hDj
        obtain ⟨ek, q1, q2, q3, q4⟩ := R.writer h1 h2 j j ej (Nat.le_refl _) hej (by rw [hw]; rfl) hjk
        rw [hk] at q1
        cases q1
        obtain ⟨r, hr⟩ := rowF_some.1 q2
        exact (pairHigh j ej q3 hej hDj).r1 i (lookL_mem hr) q4)
    unfold hD
    rw [this]
    exact R.fresh i (by omega)
  have hst : StepR P G ops e.o ρ (hD E s D) O w a e.v e.us :=
    stepE_soundW S (fun t ht => by rw [← agreeT t ht]; exact hs.2 t) (fun id hid r hr => by rw [agreeH id hid]; exact hr) hfresh g2 g4
  have eT : putT (tmD E s D) e.o.dst e.v = tmD E s (fun j => Nat.beq j k || D j) := by
    rw [putT_over]
    funext t
    symm
    refine runF_insert (E.map Ent.slotF) k D s.tm t e.slotF (by rw [List.getElem?_map, hk]; rfl) hDk fun j f hjk hj hDj hsome => ?_
    rw [List.getElem?_map] at hj
    obtain ⟨ej, hej, rfl⟩ := Option.map_eq_some_iff.1 hj
    have hap := pairHigh j ej hjk hej hDj
    unfold Ent.slotF at hsome ⊢
    split at hsome
    · cases hsome
    · rename_i d hd
      cases hb : Nat.beq t d with
      | false => simp [hb] at hsome
      | true =>
        have htd := Nat.eq_of_beq_eq_true hb
        subst htd
        split
        · rfl
        · rename_i d' hd'
          cases hb' : Nat.beq t d' with
          | false => simp
          | true => have := Nat.eq_of_beq_eq_true hb'; subst this; exact absurd hd' (hap.s3 t hd)
  have eH : (hD E s D).upd e.us = hD E s (fun j => Nat.beq j k || D j) := by
    rw [upd_over]
    funext id
    symm
    refine runF_insert (E.map Ent.rowF) k D s.h id e.rowF (by rw [List.getElem?_map, hk]; rfl) hDk fun j f hjk hj hDj hsome => ?_
    rw [List.getElem?_map] at hj
    obtain ⟨ej, hej, rfl⟩ := Option.map_eq_some_iff.1 hj
    have hap := pairHigh j ej hjk hej hDj
    obtain ⟨r, hr⟩ := rowF_some.1 hsome
    cases hw : ej.rowF id with
    | none => rfl
    | some b =>
      obtain ⟨r', hr'⟩ := rowF_some.1 (by rw [hw]; rfl : (ej.rowF id).isSome = true)
      exact absurd (lookL_mem hr') (hap.r3 id (lookL_mem hr))
  have hwp := hst.wp (Q := Q) (K := K) S hs g3 fun ρ' O' w' x p1 p2 p3 => hK _ _ ⟨ρ', O', by rw [← eH]; exact p1, by rw [← eH, ← eT]; exact p2, by
    have : (a.put e.o.dst x).defers = a.defers := by cases e.o.dst <;> rfl
    rw [this, hdf], by rw [← eH]; exact F.trans p3⟩
  unfold wpOp
  rw [R.get hk]
  split at hwp
  · rename_i hw; simp only [hw, if_true]; exact .inl hwp
  · rename_i hw; simp only [hw, Bool.false_eq_true, if_false]; exact hwp

theorem Reg.any (R : Reg P G ops s E) {ρ0 : Lay} {O0 : Nat → Prop} {w0 : World} (hQ : ∀ a w, Done G E s ρ0 O0 w0 a0 (fun _ => true) a w → Q .normal a w) :
    ∀ (fuel : Nat) (listed : Array Bool) (a : Act) (w : World), listed.size = ops.size → (List.range ops.size).countP (fun j => !listed.getD j true) ≤ fuel → Closed ops (fun j => listed.getD j false) →
      Done G E s ρ0 O0 w0 a0 (fun j => listed.getD j false) a w → wpAny P .any ops Q fuel listed a w := by
  have hall : ∀ (listed : Array Bool), listed.size = ops.size → Region.ready .any ops listed = [] → ∀ j, j < ops.size → listed.getD j false = true := fun listed hsz hr j => by
    induction j using Nat.strongRecOn with
    | _ j ih =>
      intro hj
      apply Classical.byContradiction
      intro hn
      have hmem : j ∈ Region.ready .any ops listed := by
        rw [mem_ready]
        refine ⟨?_, ops[j], Array.getElem?_eq_getElem hj, fun e he hb => ?_⟩
        · have hlt : j < listed.size := by omega
          simp [hlt] at hn ⊢
          exact hn
        · have hx : e.on ∈ edgesOf ops j := by
            simp only [edgesOf, Array.getElem?_eq_getElem hj]
            exact edgeOn_mem (by simpa using he) hb
          have := R.ord.below j _ hx
          exact ih e.on this (by omega)
      rw [hr] at hmem
      cases hmem
  have hfin : ∀ (listed : Array Bool) a w, listed.size = ops.size → Region.ready .any ops listed = [] → Done G E s ρ0 O0 w0 a0 (fun j => listed.getD j false) a w → Q .normal a w := fun listed a w hsz hr hd => by
    refine hQ a w ?_
    have e1 : tmD E s (fun j => listed.getD j false) = tmD E s (fun _ => true) := by
      funext t
      refine runF_congr _ 0 _ _ _ _ t (fun j f hj hf => ?_) rfl
      have : j < ops.size := by rw [← R.len]; simpa using (List.getElem?_eq_some_iff.1 hj).1
      rw [Nat.zero_add]
      exact hall listed hsz hr j this
    have e2 : hD E s (fun j => listed.getD j false) = hD E s (fun _ => true) := by
      funext t
      refine runF_congr _ 0 _ _ _ _ t (fun j f hj hf => ?_) rfl
      have : j < ops.size := by rw [← R.len]; simpa using (List.getElem?_eq_some_iff.1 hj).1
      rw [Nat.zero_add]
      exact hall listed hsz hr j this
    obtain ⟨ρ, O, q1, q2, q3, q4⟩ := hd
    rw [e2] at q1 q2 q4
    rw [e1] at q2
    exact ⟨ρ, O, q1, q2, q3, q4⟩
  intro fuel
  induction fuel with
  | zero =>
    intro listed a w hsz hcnt hcl hd
    have hr : Region.ready .any ops listed = [] := by
      rw [List.eq_nil_iff_forall_not_mem]
      intro j hj
      obtain ⟨h0, o, ho, _⟩ := mem_ready.1 hj
      have hlt : j < ops.size := (Array.getElem?_eq_some_iff.1 ho).1
      have hz : (List.range ops.size).countP (fun j => !listed.getD j true) = 0 := by omega
      rw [List.countP_eq_zero] at hz
      have := hz j (List.mem_range.2 hlt)
      simp only [h0, Bool.not_false, not_true_eq_false] at this
    exact ⟨hr, hfin listed a w hsz hr hd⟩
  | succ fuel ih =>
    intro listed a w hsz hcnt hcl hd
    refine ⟨fun hr => hfin listed a w hsz hr hd, fun k hk => ?_⟩
    obtain ⟨h0, o, ho, hafter⟩ := mem_ready.1 hk
    have hlt : k < ops.size := (Array.getElem?_eq_some_iff.1 ho).1
    have hlt' : k < listed.size := by omega
    have hEk : E[k]? = some (E[k]'(by rw [R.len]; exact hlt)) := List.getElem?_eq_some_iff.2 ⟨by rw [R.len]; exact hlt, rfl⟩
    have hDk : listed.getD k false = false := by simp [hlt'] at h0 ⊢; exact h0
    have hed : ∀ x ∈ edgesOf ops k, listed.getD x false = true := fun x hx => by
      simp only [edgesOf, ho] at hx
      obtain ⟨e, he, hb, rfl⟩ := edgeOn_spec hx
      exact hafter e (by simpa using he) hb
    have hset : (fun j => (listed.setIfInBounds k true).getD j false) = (fun j => Nat.beq j k || listed.getD j false) := by
      funext j
      by_cases hjk : j = k
      · subst hjk; simp [hlt']
      · have : Nat.beq j k = false := by cases hb : Nat.beq j k with | false => rfl | true => exact absurd (Nat.eq_of_beq_eq_true hb) hjk
        simp only [this, Bool.false_or]
        exact getD_set_ne false (Ne.symm hjk)
    refine R.next hcl hEk hDk hed hd fun a' w' hd' => ih _ a' w' (by simp [hsz]) ?_ ?_ (by rw [hset]; exact hd')
    · have := countP_lt (p := fun j => !listed.getD j true) (q := fun j => !(listed.setIfInBounds k true).getD j true) (List.range ops.size) (fun x _ hx => by
        by_cases hxk : x = k
        · subst hxk; simp [hlt'] at hx
        · rw [getD_set_ne true (Ne.symm hxk)] at hx; exact hx) ⟨k, List.mem_range.2 hlt, by simp only [h0]; rfl, by simp [hlt']⟩
      omega
    · rw [hset]
      intro j hj x hx
      simp only [Bool.or_eq_true] at hj ⊢
      rcases hj with hj | hj
      · have := Nat.eq_of_beq_eq_true hj
        subst this
        exact .inr (hed x hx)
      · exact .inr (hcl j hj x hx)

theorem repl_false (n j : Nat) : (Array.replicate n false).getD j false = false := by
  rw [Array.getD_eq_getD_getElem?]
  by_cases hj : j < n
  · rw [Array.getElem?_replicate]; simp [hj]
  · rw [Array.getElem?_replicate]; simp [hj]

/-- A REGION, however its operations come. -/
theorem region_any {B : List Deferred} {id : Nat} {fs : List Foot} {ρ : Lay} {O : Nat → Prop} {a : Act} {w : World} (hm : P.follows .mixedOrders = true) (he : evOps P G ops ops.toList 0 s = some (s', fs)) (hok : ordersOk ops fs = true)
    (hC : AllP s'.c) (hfr : ∀ i, s.nx ≤ i → s.h i = none) (I : Inv G B ρ O s a w) (hQ : ∀ a' w', Goes G B ρ s.h O w s' a' w' → Q .normal a' w') :
    (Code.region id ops true).wp P Q a w := by
  obtain ⟨E, e1, e2, e3, e4, e5, e6, e7, e8⟩ := evOps_trace ops.toList 0 s s' fs he (ordersOk_nodefer hok) hC
  subst e2
  have R : Reg P G ops s E := ⟨by simpa using e1, fun j e o hj ho => e3 j e o hj (by simpa using ho), ordersOk_spec hok (fun j e hj => by
    have hlt : j < ops.size := by have := (List.getElem?_eq_some_iff.1 hj).1; simp at e1; omega
    have ho : ops[j]? = some ops[j] := Array.getElem?_eq_getElem hlt
    rw [ho, (e3 j e ops[j] hj (by simp)).1]), hfr⟩
  have hno : ∀ {β : Type} (F : List (Nat → Option β)) (f : Nat → β), runF F 0 (fun j => (Array.replicate ops.size false).getD j false) f = f := fun F f => by
    funext x
    refine runF_none F 0 _ f x fun j e hj hd => ?_
    simp only [repl_false] at hd
    cases hd
  refine wp_region_any hm (R.any (a0 := a) (ρ0 := ρ) (O0 := O) (w0 := w) (fun a' w' hd => hQ a' w' ?_) ops.size _ a _ (by simp) ?_ ?_ ?_)
  · obtain ⟨ρ', O', q1, q2, q3, q4⟩ := hd
    have t1 : tmD E s (fun _ => true) = s'.tm := funext fun t => (e4 t).symm
    have t2 : hD E s (fun _ => true) = s'.h := funext fun t => (e5 t).symm
    rw [t2] at q1 q2 q4
    rw [t1, ← e7] at q2
    exact ⟨ρ', O', ⟨q1, q2, by rw [e6, q3]; exact I.defs⟩, q4⟩
  · exact Nat.le_trans List.countP_le_length (by simp)
  · intro j hj
    simp only [repl_false] at hj
    cases hj
  · refine ⟨ρ, O, ?_, ?_, rfl, ?_⟩
    · unfold hD; rw [hno]; exact I.sim.same rfl rfl rfl rfl
    · unfold hD tmD; rw [hno, hno]; exact I.slots.mono I.sim (Fr.same rfl rfl rfl rfl)
    · unfold hD; rw [hno]; exact Fr.same rfl rfl rfl rfl

end
end Go.Ax
