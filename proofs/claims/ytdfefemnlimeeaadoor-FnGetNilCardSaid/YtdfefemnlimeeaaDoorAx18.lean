/-
  An abstract machine for Go functions (part 18): a region whose operations may come in more than one order.
-/
import Derived.Test.YtdfefemnlimeeaaDoorAx17
set_option linter.unusedVariables false
set_option linter.unusedSimpArgs false
namespace Go.Ax

/-! ### Runs of overwritings -/
section
variable {β : Type}
def over (e : Nat → Option β) (f : Nat → β) : Nat → β := fun x => match e x with | some b => b | none => f x

def runF : List (Nat → Option β) → Nat → (Nat → Bool) → (Nat → β) → Nat → β
  | [], _, _, f => f
  | e :: l, k, D, f => runF l (k + 1) D (bif D k then over e f else f)

theorem runF_congr : ∀ (l : List (Nat → Option β)) (k : Nat) (D D' : Nat → Bool) (f f' : Nat → β) (x : Nat), (∀ j e, l[j]? = some e → (e x).isSome = true → D (k + j) = D' (k + j)) →
    f x = f' x → runF l k D f x = runF l k D' f' x
  | [], k, D, D', f, f', x, h, hf => hf
  | e :: l, k, D, D', f, f', x, h, hf => by
    simp only [runF]
    refine runF_congr l (k + 1) D D' _ _ x (fun j e' hj hs => by have := h (j + 1) e' (by simpa using hj) hs; rwa [show k + 1 + j = k + (j + 1) by omega]) ?_
    cases hx : e x with
    | none =>
      have h1 : over e f x = f x := by simp [over, hx]
      have h2 : over e f' x = f' x := by simp [over, hx]
      cases D k <;> cases D' k <;> simp [h1, h2, hf]
    | some b =>
      have h0 := h 0 e rfl (by rw [hx]; rfl)
      simp only [Nat.add_zero] at h0
      rw [h0]
      have h1 : over e f x = b := by simp [over, hx]
      have h2 : over e f' x = b := by simp [over, hx]
      cases D' k <;> simp [h1, h2, hf]

theorem runF_none : ∀ (l : List (Nat → Option β)) (k : Nat) (D : Nat → Bool) (f : Nat → β) (x : Nat), (∀ j e, l[j]? = some e → D (k + j) = true → e x = none) → runF l k D f x = f x
  | [], k, D, f, x, h => rfl
  | e :: l, k, D, f, x, h => by
    simp only [runF]
    rw [runF_none l (k + 1) D _ x fun j e' hj hd => h (j + 1) e' (by simpa using hj) (by rwa [show k + (j + 1) = k + 1 + j by omega])]
    cases hd : D k with
    | false => rfl
    | true => simp [over, h 0 e rfl (by simpa using hd)]

theorem runF_last : ∀ (l : List (Nat → Option β)) (k i : Nat) (D : Nat → Bool) (f : Nat → β) (x : Nat) (e : Nat → Option β) (b : β), l[i]? = some e → e x = some b → D (k + i) = true →
    (∀ j e', i < j → l[j]? = some e' → D (k + j) = true → e' x = none) → runF l k D f x = b
  | [], k, i, D, f, x, e, b, h1, h2, h3, h4 => by simp at h1
  | e0 :: l, k, 0, D, f, x, e, b, h1, h2, h3, h4 => by
    simp at h1
    subst h1
    simp only [runF]
    rw [runF_none l (k + 1) D _ x fun j e' hj hd => h4 (j + 1) e' (by omega) (by simpa using hj) (by rwa [show k + (j + 1) = k + 1 + j by omega])]
    simp only [Nat.add_zero] at h3
    simp [h3, over, h2]
  | e0 :: l, k, i + 1, D, f, x, e, b, h1, h2, h3, h4 => by
    simp only [runF]
    exact runF_last l (k + 1) i D _ x e b (by simpa using h1) h2 (by rwa [show k + 1 + i = k + (i + 1) by omega])
      fun j e' hij hj hd => h4 (j + 1) e' (by omega) (by simpa using hj) (by rwa [show k + (j + 1) = k + 1 + j by omega])

theorem runF_insert (l : List (Nat → Option β)) (k : Nat) (D : Nat → Bool) (f : Nat → β) (x : Nat) (e : Nat → Option β) (hk : l[k]? = some e) (hD : D k = false)
    (hlater : ∀ j e', k < j → l[j]? = some e' → D j = true → (e x).isSome = true → e' x = none) :
    runF l 0 (fun j => Nat.beq j k || D j) f x = over e (runF l 0 D f) x := by
  cases hx : e x with
  | none =>
    have : over e (runF l 0 D f) x = runF l 0 D f x := by simp [over, hx]
    rw [this]
    refine runF_congr l 0 _ _ f f x (fun j e' hj hs => ?_) rfl
    have hne : j ≠ k := fun h => by subst h; rw [hk] at hj; cases hj; rw [hx] at hs; cases hs
    have : Nat.beq j k = false := by cases hb : Nat.beq j k with | false => rfl | true => exact absurd (Nat.eq_of_beq_eq_true hb) hne
    simp [this, Nat.zero_add]
  | some b =>
    have : over e (runF l 0 D f) x = b := by simp [over, hx]
    rw [this]
    refine runF_last l 0 k _ f x e b hk hx (by simp) fun j e' hij hj hd => ?_
    simp only [Nat.zero_add, Bool.or_eq_true] at hd
    rcases hd with hd | hd
    · exact absurd (Nat.eq_of_beq_eq_true hd) (by omega)
    · exact hlater j e' hij hj hd (by rw [hx]; rfl)
end

/-! ### The steps of a region, written down -/
structure Ent where
  o : Oper
  tm : Nat → AV
  h : Heap
  orc : List Orc
  v : AV
  us : List (Nat × Row)
  c : List Prop
  orc' : List Orc

def Ent.slotF (e : Ent) : Nat → Option AV := fun t => match e.o.dst with | none => none | some d => bif Nat.beq t d then some e.v else none
def Ent.rowF (e : Ent) : Nat → Option (Option Row) := fun id => (lookL e.us id).map some
def Ent.foot (ops : Array Oper) (e : Ent) : Foot := ⟨needOf ops e.o e.tm e.orc, e.us.map (·.1)⟩

theorem putT_over (tm : Nat → AV) (e : Ent) : putT tm e.o.dst e.v = over e.slotF tm := by
  funext t
  cases hd : e.o.dst with
  | none => simp [putT, over, Ent.slotF, hd]
  | some d => cases hb : Nat.beq t d <;> simp [putT, over, Ent.slotF, hd, hb]

theorem upd_over (h : Heap) (e : Ent) : h.upd e.us = over e.rowF h := by
  funext id
  simp only [Heap.upd, over, Ent.rowF]
  cases hl : lookL e.us id <;> rfl

theorem lookL_mem : ∀ {us : List (Nat × Row)} {id : Nat} {r : Row}, lookL us id = some r → id ∈ us.map (·.1)
  | [], id, r, h => by simp [lookL] at h
  | (i, x) :: us, id, r, h => by
    simp only [lookL] at h
    cases hb : Nat.beq i id with
    | true => simp [Nat.eq_of_beq_eq_true hb]
    | false => simp only [hb, cond_false] at h; exact List.mem_cons_of_mem _ (lookL_mem h)

def EntOk (P : Program) (G : Env) (ops : Array Oper) (s : St) (k j : Nat) (E : List Ent) (e : Ent) (o : Oper) : Prop :=
  e.o = o ∧ stepE P G ops e.o (s.nx + 64 * (k + j)) e.tm e.h e.orc = some (e.v, e.us, e.c, e.orc') ∧ dstOk s.n e.o.dst = true ∧ AllP e.c ∧
  (∀ t, e.tm t = runF (E.map Ent.slotF) k (fun i => Nat.blt i (k + j)) s.tm t) ∧ ∀ id, e.h id = runF (E.map Ent.rowF) k (fun i => Nat.blt i (k + j)) s.h id

section
variable {P : Program} {G : Env}

theorem evOps_trace {ops : Array Oper} : ∀ (l : List Oper) (k : Nat) (s s' : St) (fs : List Foot), evOps P G ops l k s = some (s', fs) → (∀ o ∈ l, ∀ c, o.op ≠ .defer c) → AllP s'.c →
    ∃ E : List Ent, E.length = l.length ∧ fs = E.map (Ent.foot ops) ∧ (∀ j e o, E[j]? = some e → l[j]? = some o → EntOk P G ops s k j E e o) ∧
      (∀ t, s'.tm t = runF (E.map Ent.slotF) k (fun _ => true) s.tm t) ∧ (∀ id, s'.h id = runF (E.map Ent.rowF) k (fun _ => true) s.h id) ∧ s'.df = s.df ∧ s'.n = s.n ∧ s'.nx = s.nx
  | [], k, s, s', fs, he, hd, hC => by
    simp [evOps] at he
    obtain ⟨rfl, rfl⟩ := he
    exact ⟨[], rfl, rfl, fun j e o h => by simp at h, fun t => rfl, fun id => rfl, rfl, rfl, rfl⟩
  | o :: l, k, s, s', fs, he, hdf, hC => by
    unfold evOps at he
    split at he
    · rename_i c hop hgd
      exact absurd hop (hdf o (by simp) c)
    · split at he
      · rename_i v us c orc' hst
        cases hd : dstOk s.n o.dst with
        | false => simp [hd] at he
        | true =>
          simp only [hd, cond_true] at he
          obtain ⟨⟨s2, fs2⟩, h1, h2⟩ := Option.map_eq_some_iff.1 he
          simp only [Prod.mk.injEq] at h2
          obtain ⟨rfl, rfl⟩ := h2
          have hc := (AllP_append.1 (evOps_c l (k + 1) _ _ _ h1 hC)).1
          obtain ⟨E, e1, e2, e3, e4, e5, e6, e7, e8⟩ := evOps_trace l (k + 1) _ _ _ h1 (fun o ho => hdf o (List.mem_cons_of_mem _ ho)) hC
          have hput : putT s.tm o.dst v = over (Ent.slotF ⟨o, s.tm, s.h, s.orc, v, us, c, orc'⟩) s.tm := putT_over s.tm ⟨o, s.tm, s.h, s.orc, v, us, c, orc'⟩
          have hupd : s.h.upd us = over (Ent.rowF ⟨o, s.tm, s.h, s.orc, v, us, c, orc'⟩) s.h := upd_over s.h ⟨o, s.tm, s.h, s.orc, v, us, c, orc'⟩
          refine ⟨⟨o, s.tm, s.h, s.orc, v, us, c, orc'⟩ :: E, by simp [e1], by simp [e2, Ent.foot], fun j e o' hj hl => ?_, fun t => ?_, fun id => ?_, e6, e7, e8⟩
          · cases j with
            | zero =>
              simp at hj hl
              subst hj; subst hl
              refine ⟨rfl, by simpa using hst, hd, hc, fun t => ?_, fun id => ?_⟩
              · symm
                refine runF_none _ k _ _ t fun j e hj hb => ?_
                have := Nat.blt_eq.mp hb
                omega
              · symm
                refine runF_none _ k _ _ id fun j e hj hb => ?_
                have := Nat.blt_eq.mp hb
                omega
            | succ j =>
              obtain ⟨g1, g2, g3, g4, g5, g6⟩ := e3 j e o' (by simpa using hj) (by simpa using hl)
              have hk : Nat.blt k (k + (j + 1)) = true := Nat.blt_eq.mpr (by omega)
              have hkk : k + 1 + j = k + (j + 1) := by omega
              rw [hkk] at g2 g5 g6
              refine ⟨g1, g2, g3, g4, fun t => ?_, fun id => ?_⟩
              · rw [g5 t]
                simp only [List.map_cons, runF, hk, cond_true, hput]
              · rw [g6 id]
                simp only [List.map_cons, runF, hk, cond_true, hupd]
          · rw [e4 t]
            simp only [List.map_cons, runF, cond_true, hput]
          · rw [e5 id]
            simp only [List.map_cons, runF, cond_true, hupd]
      · cases he

/-! ### What the look at orders says -/
def edgesOf (ops : Array Oper) (j : Nat) : List Nat := match ops[j]? with | some o => edgeOn o.after.toList | none => []

def Closed (ops : Array Oper) (D : Nat → Bool) : Prop := ∀ j, D j = true → ∀ x ∈ edgesOf ops j, D x = true

def Good (ops : Array Oper) (j : Nat) (r : List Nat) : Prop := ∀ D, Closed ops D → (∀ x ∈ edgesOf ops j, D x = true) → ∀ x ∈ r, D x = true

theorem befRow_good {ops : Array Oper} {tab : List (List Nat)} (ht : ∀ i r, tab[i]? = some r → Good ops i r) {D : Nat → Bool} (hD : Closed ops D) :
    ∀ (l : List Nat), (∀ x ∈ l, D x = true) → ∀ x ∈ befRow tab l, D x = true
  | [], _, x, hx => by simp [befRow] at hx
  | j :: l, hl, x, hx => by
    simp only [befRow, List.cons_append, List.mem_cons, List.mem_append] at hx
    rcases hx with rfl | hx | hx
    · exact hl x (by simp)
    · rw [nth_eq] at hx
      cases hj : tab[j]? with
      | none => simp [hj] at hx
      | some r =>
        simp only [hj, Option.getD_some] at hx
        exact ht j r hj D hD (hD j (hl j (by simp))) x hx
    · exact befRow_good ht hD l (fun y hy => hl y (List.mem_cons_of_mem _ hy)) x hx

theorem befTab_good {ops : Array Oper} : ∀ (l : List Oper) (tab : List (List Nat)), (∀ j, l[j]? = ops.toList[tab.length + j]?) → (∀ i r, tab[i]? = some r → Good ops i r) →
    ∀ i r, (befTab l tab)[i]? = some r → Good ops i r
  | [], tab, hl, ht, i, r, h => ht i r h
  | o :: l, tab, hl, ht, i, r, h => by
    simp only [befTab] at h
    have h0 := hl 0
    simp at h0
    refine befTab_good l (tab ++ [befRow tab (edgeOn o.after.toList)]) (fun j => by have := hl (j + 1); simp at this ⊢; rw [this]; congr 1; omega) (fun i' r' hi' => ?_) i r h
    by_cases hlt : i' < tab.length
    · rw [List.getElem?_append_left hlt] at hi'
      exact ht i' r' hi'
    · have hi2 : i' = tab.length := by
        have := (List.getElem?_eq_some_iff.1 hi').1
        simp at this
        omega
      subst hi2
      simp at hi'
      subst hi'
      intro D hD he
      refine befRow_good ht hD _ fun x hx => he x ?_
      simp only [edgesOf, ← h0]
      exact hx

theorem pairsWith_spec {ops : Array Oper} {bk : List Nat} {b : Oper} {fb : Foot} : ∀ (l : List (Oper × Foot)) (i : Nat), pairsWith ops bk b fb i l = true →
    ∀ m a fa, l[m]? = some (a, fa) → (i + m) ∈ bk ∨ apartB ops a fa b fb = true
  | [], i, h, m, a, fa, hm => by simp at hm
  | (a0, f0) :: l, i, h, m, a, fa, hm => by
    simp only [pairsWith] at h
    cases hb : (elemB bk i || apartB ops a0 f0 b fb) with
    | false => simp [hb] at h
    | true =>
      simp only [hb, cond_true] at h
      cases m with
      | zero =>
        simp at hm
        obtain ⟨rfl, rfl⟩ := hm
        rcases Bool.or_eq_true _ _ ▸ hb with hb | hb
        · exact .inl (elemB_iff.1 hb)
        · exact .inr hb
      | succ m =>
        have := pairsWith_spec l (i + 1) h m a fa (by simpa using hm)
        rwa [show i + 1 + m = i + (m + 1) by omega] at this

theorem edgesBelow_spec {k : Nat} : ∀ {l : List Nat}, edgesBelow k l = true → ∀ x ∈ l, x < k
  | [], _, x, hx => by cases hx
  | j :: l, h, x, hx => by
    simp only [edgesBelow] at h
    cases hb : Nat.blt j k with
    | false => simp [hb] at h
    | true =>
      simp only [hb, cond_true] at h
      rcases List.mem_cons.1 hx with rfl | hx
      · exact Nat.blt_eq.mp hb
      · exact edgesBelow_spec h x hx

theorem pairsAll_spec {ops : Array Oper} : ∀ (rest before : List (Oper × Foot)) (bt : List (List Nat)) (k : Nat), pairsAll ops before rest bt k = true → before.length = k →
    ∀ j o f, rest[j]? = some (o, f) → ∃ bk, bt[j]? = some bk ∧ (∀ x ∈ edgeOn o.after.toList, x < k + j) ∧ (∀ c, o.op ≠ .defer c) ∧
      ∀ i a fa, i < k + j → (before ++ rest)[i]? = some (a, fa) → i ∈ bk ∨ apartB ops a fa o f = true
  | [], before, bt, k, h, hk, j, o, f, hj => by simp at hj
  | (o0, f0) :: rest, before, bt, k, h, hk, j, o, f, hj => by
    unfold pairsAll at h
    split at h
    · rename_i bk bt'
      simp at h
      obtain ⟨⟨⟨b1, b2⟩, b3⟩, h⟩ := h
      cases j with
      | zero =>
        simp at hj
        obtain ⟨rfl, rfl⟩ := hj
        refine ⟨bk, rfl, fun x hx => by have := edgesBelow_spec b2 x hx; simpa using this, fun c hc => by simp [hc] at b3, fun i a fa hi hg => ?_⟩
        rw [List.getElem?_append_left (by omega)] at hg
        have := pairsWith_spec before 0 b1 i a fa hg
        rwa [Nat.zero_add] at this
      | succ j =>
        obtain ⟨bk', q1, q2, q3, q4⟩ := pairsAll_spec rest (before ++ [(o0, f0)]) bt' (k + 1) h (by simp [hk]) j o f (by simpa using hj)
        refine ⟨bk', by simpa using q1, fun x hx => by have := q2 x hx; omega, q3, fun i a fa hi hg => q4 i a fa (by omega) (by simpa using hg)⟩
    · cases h

theorem meetB_spec : ∀ {l m : List Nat}, meetB l m = false → ∀ x ∈ l, x ∉ m
  | [], m, _, x, hx => by cases hx
  | y :: l, m, h, x, hx => by
    simp only [meetB] at h
    cases hb : elemB m y with
    | true => simp [hb] at h
    | false =>
      simp only [hb, cond_false] at h
      rcases List.mem_cons.1 hx with rfl | hx
      · intro hm; rw [elemB_iff.2 hm] at hb; cases hb
      · exact meetB_spec h x hx

structure Apart (ops : Array Oper) (a b : Ent) : Prop where
  s1 : ∀ d, a.o.dst = some d → d ∉ looksAtL ops b.o
  s2 : ∀ d, b.o.dst = some d → d ∉ looksAtL ops a.o
  s3 : ∀ d, a.o.dst = some d → b.o.dst ≠ some d
  r1 : ∀ id ∈ a.us.map (·.1), id ∉ needOf ops b.o b.tm b.orc
  r2 : ∀ id ∈ b.us.map (·.1), id ∉ needOf ops a.o a.tm a.orc
  r3 : ∀ id ∈ a.us.map (·.1), id ∉ b.us.map (·.1)

theorem apartB_spec {ops : Array Oper} {a b : Ent} (h : apartB ops a.o (a.foot ops) b.o (b.foot ops) = true) : Apart ops a b := by
  simp only [apartB, Ent.foot, Bool.and_eq_true, Bool.not_eq_true'] at h
  obtain ⟨⟨⟨⟨⟨h1, h2⟩, h3⟩, h4⟩, h5⟩, h6⟩ := h
  exact ⟨fun d hd => meetB_spec h1 d (by simp [hd]), fun d hd => meetB_spec h2 d (by simp [hd]), fun d hd hd2 => meetB_spec h3 d (by simp [hd]) (by simp [hd2]),
    fun id hm => meetB_spec h4 id hm, fun id hm => meetB_spec h5 id hm, fun id hm => meetB_spec h6 id hm⟩

/-- What the look at orders gives, of a region's steps. -/
structure Ordered (ops : Array Oper) (E : List Ent) : Prop where
  below : ∀ j, ∀ x ∈ edgesOf ops j, x < j
  pairs : ∀ (i j : Nat) (ei ej : Ent), i < j → E[i]? = some ei → E[j]? = some ej → (∀ D, Closed ops D → (∀ x ∈ edgesOf ops j, D x = true) → D i = true) ∨ Apart ops ei ej

theorem zip_get {α β : Type} : ∀ (l : List α) (m : List β) (j : Nat) (a : α) (b : β), l[j]? = some a → m[j]? = some b → (l.zip m)[j]? = some (a, b)
  | [], m, j, a, b, h1, h2 => by simp at h1
  | x :: l, [], j, a, b, h1, h2 => by simp at h2
  | x :: l, y :: m, 0, a, b, h1, h2 => by simp at h1 h2; subst h1; subst h2; rfl
  | x :: l, y :: m, j + 1, a, b, h1, h2 => by simpa using zip_get l m j a b (by simpa using h1) (by simpa using h2)

theorem ordersOk_nodefer {ops : Array Oper} {fs : List Foot} (h : ordersOk ops fs = true) : ∀ o ∈ ops.toList, ∀ c, o.op ≠ .defer c := by
  simp only [ordersOk, Bool.and_eq_true] at h
  have hl := Nat.eq_of_beq_eq_true h.1
  intro o ho c
  obtain ⟨j, hj, he⟩ := List.getElem_of_mem ho
  have h1 : ops.toList[j]? = some o := List.getElem?_eq_some_iff.2 ⟨hj, he⟩
  have h2 : fs[j]? = some (fs[j]'(by omega)) := List.getElem?_eq_some_iff.2 ⟨by omega, rfl⟩
  obtain ⟨bk, _, _, q3, _⟩ := pairsAll_spec _ [] _ 0 h.2 rfl j o _ (zip_get _ _ j _ _ h1 h2)
  exact q3 c

theorem ordersOk_spec {ops : Array Oper} {E : List Ent} (h : ordersOk ops (E.map (Ent.foot ops)) = true) (hE : ∀ (j : Nat) (e : Ent), E[j]? = some e → ops[j]? = some e.o) : Ordered ops E := by
  simp only [ordersOk, Bool.and_eq_true] at h
  have hl := Nat.eq_of_beq_eq_true h.1
  simp only [List.length_map] at hl
  have hz : ∀ (j : Nat) (e : Ent), E[j]? = some e → (ops.toList.zip (E.map (Ent.foot ops)))[j]? = some (e.o, e.foot ops) := fun j e hj =>
    zip_get _ _ j _ _ (by rw [Array.getElem?_toList]; exact hE j e hj) (by rw [List.getElem?_map, hj]; rfl)
  refine ⟨fun j x hx => ?_, fun i j ei ej hij hi hj => ?_⟩
  · unfold edgesOf at hx
    cases ho : ops[j]? with
    | none => simp [ho] at hx
    | some o =>
      simp only [ho] at hx
      have hlt : j < E.length := by rw [hl]; simpa using (Array.getElem?_eq_some_iff.1 ho).1
      have hj : E[j]? = some E[j] := List.getElem?_eq_some_iff.2 ⟨hlt, rfl⟩
      obtain ⟨bk, _, q2, _, _⟩ := pairsAll_spec _ [] _ 0 h.2 rfl j _ _ (hz j _ hj)
      have := hE j _ hj
      rw [ho] at this
      cases this
      simpa using q2 x hx
  · obtain ⟨bk, q1, q2, q3, q4⟩ := pairsAll_spec _ [] _ 0 h.2 rfl j _ _ (hz j ej hj)
    rcases q4 i ei.o (ei.foot ops) (by omega) (by simpa using hz i ei hi) with hm | hm
    · have hg := befTab_good (ops := ops) ops.toList [] (fun j => by simp) (fun i r h => by simp at h) j bk q1
      exact .inl fun D hD he => hg D hD he i hm
    · exact .inr (apartB_spec hm)

end
end Go.Ax
