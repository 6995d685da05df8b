/-
  An abstract machine for Go functions (part 20): code, pieces of code, whole functions.
-/
import Derived.Test.YtdfefemnlimeeaaDoorAx19
import Derived.Scope
import Derived.LoopN
set_option linter.unusedVariables false
set_option linter.unusedSimpArgs false
namespace Go.Ax
open Go.RowKit

theorem closedL_mem : ∀ {l : List AV}, AV.closedL l = true → ∀ a ∈ l, a.closed = true
  | [], _, a, h => by cases h
  | b :: l, hl, a, h => by
    simp only [AV.closedL, Bool.and_eq_true] at hl
    rcases List.mem_cons.1 h with rfl | h
    · exact hl.1
    · exact closedL_mem hl.2 a h

theorem VR_closed {ρ : Lay} {h : Heap} {O : Nat → Prop} {w : World} {a : AV} {v : Value} (hv : VR ρ h O w a v) (hc : a.closed = true) : DR O w a v := by
  induction hv with
  | dr hd => exact hd
  | own => simp [AV.closed] at hc
  | ownGone => simp [AV.closed] at hc
  | ptr => simp [AV.closed] at hc
  | ptrGone => simp [AV.closed] at hc
  | mp => simp [AV.closed] at hc
  | mpGone => simp [AV.closed] at hc
  | tup => simp [AV.closed] at hc
  | agg h1 h2 ih =>
    simp only [AV.closed] at hc
    exact .agg h1 fun j c v hj hv => ih j c v hj hv (closedL_mem hc c (List.mem_of_getElem? hj))
  | ifc h1 ih => simp only [AV.closed] at hc; exact .ifc (ih hc)
  | opt h1 h2 ih => simp only [AV.closed] at hc; exact .opt (fun hp => ih hp hc) h2
  | clo h1 h2 h3 h4 ih1 ih2 =>
    simp only [AV.closed, Bool.and_eq_true] at hc
    exact .clo h1 h2 (fun j c v hj hv => ih1 j c v hj hv (closedL_mem hc.1 c (List.mem_of_getElem? hj))) (fun j c v hj hv => ih2 j c v hj hv (closedL_mem hc.2 c (List.mem_of_getElem? hj)))

theorem AV.frzL_map (k : Nat) (r : Row) : ∀ l, AV.frzL k r l = l.map (AV.frz k r)
  | [] => rfl
  | a :: l => by simp [AV.frzL, AV.frzL_map k r l]
theorem frzE_map (k : Nat) (r : Row) : ∀ l, frzE k r l = l.map (fun x => (x.1, AV.frz k r x.2))
  | [] => rfl
  | (n, a) :: l => by simp [frzE, frzE_map k r l]
theorem Row.frz_live (k : Nat) (r x : Row) : (frzRow k r x).live = x.live := by cases x <;> rfl
theorem Row.frz_isMap (k : Nat) (r x : Row) : (frzRow k r x).isMap = x.isMap := by cases x <;> rfl
theorem Row.frz_sz (k : Nat) (r x : Row) : (frzRow k r x).sz = x.sz := by cases x <;> rfl
theorem Row.frz_elem (k : Nat) (r x : Row) : (frzRow k r x).elem = x.elem := by cases x <;> rfl
theorem Row.frz_len (k : Nat) (r x : Row) : (frzRow k r x).len = x.len := by cases x <;> simp [frzRow, Row.len, AV.frzL_map]
theorem Row.frz_cs (k : Nat) (r x : Row) : (frzRow k r x).cs = AV.frzL k r x.cs := by
  cases x with
  | bytes e bs => simp [frzRow, Row.cs, AV.frzL_map, u8, AV.frz]
  | _ => rfl

section
variable {P : Program} {G : Env} {ρ : Lay} {O : Nat → Prop} {w : World}
theorem canFrz_spec {r : Row} (h : canFrz r = true) : r.live = true ∧ r.isMap = false ∧ ∀ c ∈ r.cs, c.closed = true := by
  cases r with
  | bytes e bs => exact ⟨rfl, rfl, fun c hc => by simp only [Row.cs, List.mem_map] at hc; obtain ⟨b, _, rfl⟩ := hc; rfl⟩
  | cells e sz cs => exact ⟨rfl, rfl, fun c hc => closedL_mem h c hc⟩
  | gone => cases h
  | map => cases h

theorem freezeH {h hN : Heap} {k : Nat} {r : Row} (S : Sim G ρ h O w) (hk' : h k = some r) (hc : canFrz r = true)
    (hget : ∀ j x, h j = some x → hN j = some (if j = k then .gone else frzRow k r x))
    (hback : ∀ j x, hN j = some x → (j = k ∧ x = .gone) ∨ ∃ y, j ≠ k ∧ h j = some y ∧ x = frzRow k r y) :
    ∃ O1, Sim G ρ hN O1 w ∧ Fr ρ h O w ρ hN O1 w ∧ ∀ a v, VR ρ h O w a v → VR ρ hN O1 w (a.frz k r) v := by
  obtain ⟨hl, hm, hcl⟩ := canFrz_spec hc
  have hblk := S.block_lt hk' hl
  let O1 : Nat → Prop := fun b => O b ∨ b = (ρ k).1
  have F : Fr ρ h O w ρ hN O1 w :=
    { os := rfl, tape := rfl, output := rfl, size := Nat.le_refl _, keep := fun _ _ _ => rfl
      dom := fun id x hx => ⟨_, hget id x hx, fun hl' => by
        by_cases hik : id = k
        · rw [if_pos hik] at hl'; cases hl'
        · rw [if_neg hik] at hl' ⊢
          rw [Row.frz_live] at hl'
          exact ⟨hl', rfl, Row.frz_isMap _ _ _, Row.frz_sz _ _ _, by rw [Row.frz_len]; exact Nat.le_refl _, rfl⟩⟩
      own := fun id x hx hl' => by
        rcases hback id x hx with ⟨_, rfl⟩ | ⟨y, h1, h2, rfl⟩
        · cases hl'
        · rw [Row.frz_live] at hl'; exact .inl ⟨id, y, h2, hl', rfl⟩
      old := fun b hb => .inl hb
      oldnew := fun b hb => by
        rcases hb with hb | hb
        · exact .inl hb
        · exact .inr (.inl ⟨k, r, hk', hl, hb.symm⟩) }
  have hO1 : O1 (ρ k).1 := .inr rfl
  have hcell : ∀ (j : Nat) c, r.cs[j]? = some c → ∃ u, w.cell? ⟨(ρ k).1, (ρ k).2 + j, none⟩ = some u ∧ DR O1 w c u := fun j c hj => by
    obtain ⟨u, h1, h2⟩ := row_cell S hk' hl hm j c hj
    exact ⟨u, h1, DR_mono F.old (S.oldKept F) (VR_closed h2 (hcl c (List.mem_of_getElem? hj)))⟩
  have V : ∀ a v, VR ρ h O w a v → VR ρ hN O1 w (a.frz k r) v := by
    intro a v hv
    induction hv with
    | @dr a v hd =>
      have key : ∀ {a v}, DR O w a v → VR ρ hN O1 w (a.frz k r) v := by
        intro a v hd
        have hd' := DR_mono F.old (S.oldKept F) hd
        clear hd
        induction hd' with
        | dead v => exact .dr (.dead v)
        | lit v => exact .dr (.lit v)
        | bts h1 h2 h3 h4 h5 => exact .dr (.bts h1 h2 h3 h4 h5)
        | btsnil => exact .dr .btsnil
        | ro val h1 h2 h3 h4 h5 h6 h7 => exact .dr (.ro val h1 h2 h3 h4 h5 h6 h7)
        | ronil => exact .dr .ronil
        | rp val h1 h2 h3 => exact .dr (.rp val h1 h2 h3)
        | @agg cs vs h1 h2 ih =>
          refine .agg (by simp only [AV.frzL_map, List.length_map]; exact h1) fun j c v hc hv => ?_
          rw [AV.frzL_map, List.getElem?_map] at hc
          obtain ⟨c', hc', rfl⟩ := Option.map_eq_some_iff.1 hc
          exact ih j c' v hc' hv
        | ifc h ih => exact .ifc ih
        | opt h h' ih => exact .opt ih h'
        | @clo fn fs cp vf vc h1 h2 h3 h4 ih1 ih2 =>
          refine .clo (by simp only [AV.frzL_map, List.length_map]; exact h1) (by simp only [AV.frzL_map, List.length_map]; exact h2) (fun j c v hc hv => ?_) (fun j c v hc hv => ?_)
          · rw [AV.frzL_map, List.getElem?_map] at hc
            obtain ⟨c', hc', rfl⟩ := Option.map_eq_some_iff.1 hc
            exact ih1 j c' v hc' hv
          · rw [AV.frzL_map, List.getElem?_map] at hc
            obtain ⟨c', hc', rfl⟩ := Option.map_eq_some_iff.1 hc
            exact ih2 j c' v hc' hv
      exact key hd
    | @own id off len cap x a c m h1 h2 h3 h4 h5 h6 h7 h8 h8' h9 h10 h11 =>
      simp only [AV.frz]
      cases hb : Nat.beq id k with
      | false => simp only [cond_false]; exact VR_mono S F (.own h1 h2 h3 h4 h5 h6 h7 h8 h8' h9 h10 h11)
      | true =>
        have hik := Nat.eq_of_beq_eq_true hb
        subst hik
        rw [hk'] at h1
        cases h1
        simp only [cond_true]
        cases r with
        | gone => cases hl
        | map => cases hm
        | bytes e bs =>
          simp only [Row.sz, Row.len, Nat.mul_one] at h4 h10
          simp only [frzOwn]
          have hlen : ((bs.drop off).take len).length = len := by simp; omega
          have hx : VR ρ hN O1 w (.bts ((bs.drop off).take len)) (.slice (some a) ((bs.drop off).take len).length c) := by
            refine .dr (.bts (fun _ => h5) (fun _ => by rw [h6]; exact hO1) (by rw [hlen]; exact h8) h8' fun i b hi => ?_)
            have hlt := (List.getElem?_eq_some_iff.1 hi).1
            rw [hlen] at hlt
            rw [List.getElem?_take, if_pos hlt, List.getElem?_drop] at hi
            obtain ⟨u, e1, e2⟩ := hcell (off + i) (u8 b) (by simp [Row.cs, hi])
            obtain ⟨b', o', s'⟩ := a
            simp at h5 h6
            subst h5
            have h7' : o' = (ρ id).2 + off := h7 (.inl (by omega))
            cases e2
            rw [add_none, h6, h7', Nat.add_assoc]
            exact e1
          rw [hlen] at hx
          exact hx
        | cells e sz cs =>
          simp only [Row.sz, Row.len] at h4 h10
          simp only [frzOwn]
          let val : Nat → Nat → Value := fun i j => (w.cell? ⟨(ρ id).1, (ρ id).2 + (off + i * sz + j), none⟩).getD undef
          have hfit : ∀ i, i < len → off + i * sz + sz ≤ cs.length := fun i hi => by
            have : (i + 1) * sz ≤ len * sz := Nat.mul_le_mul_right _ hi
            rw [Nat.add_mul, Nat.one_mul] at this
            omega
          have hval : ∀ i j c, i < len → ((cs.drop (off + i * sz)).take sz)[j]? = some c → w.cell? ⟨(ρ id).1, (ρ id).2 + (off + i * sz + j), none⟩ = some (val i j) ∧ DR O1 w c (val i j) := fun i j c hi hj => by
            have hlt := (List.getElem?_eq_some_iff.1 hj).1
            simp at hlt
            rw [List.getElem?_take, if_pos (by omega), List.getElem?_drop] at hj
            obtain ⟨u, e1, e2⟩ := hcell (off + i * sz + j) c (by simpa [Row.cs] using hj)
            have : val i j = u := by simp only [val, e1, Option.getD_some]
            rw [this]
            exact ⟨e1, e2⟩
          refine .dr (.ro val (fun _ => h5) (fun _ => by rw [h6]; exact hO1) h8 h8' (fun i hi => by have := hfit i hi; simp; omega) (fun i j c hi hj => ?_) (fun i j c hi hj => (hval i j c hi hj).2))
          obtain ⟨b', o', s'⟩ := a
          simp at h5 h6
          subst h5
          have h7' : o' = (ρ id).2 + off := h7 (.inl (by omega))
          rw [add_none, h6, h7', show (ρ id).2 + off + (i * sz + j) = (ρ id).2 + (off + i * sz + j) by omega]
          exact (hval i j c hi hj).1
    | @ownGone id off len cap x a l c h1 h2 =>
      simp only [AV.frz]
      cases hb : Nat.beq id k with
      | false => simp only [cond_false]; exact VR_mono S F (.ownGone h1 h2)
      | true =>
        have hik := Nat.eq_of_beq_eq_true hb
        subst hik
        rw [hk'] at h1
        cases h1
        rw [hl] at h2
        cases h2
    | @ptr id off x h1 h2 h3 =>
      simp only [AV.frz]
      cases hb : Nat.beq id k with
      | false => simp only [cond_false]; exact VR_mono S F (.ptr h1 h2 h3)
      | true =>
        have hik := Nat.eq_of_beq_eq_true hb
        subst hik
        simp only [cond_true]
        refine .dr (.rp (fun j => (w.cell? ⟨(ρ id).1, (ρ id).2 + j, none⟩).getD undef) hO1 (fun j c hj => ?_) (fun j c hj => ?_))
        · obtain ⟨u, e1, e2⟩ := hcell j c hj
          rw [e1]; rfl
        · obtain ⟨u, e1, e2⟩ := hcell j c hj
          rw [e1]; exact e2
    | @ptrGone id off x a h1 h2 =>
      simp only [AV.frz]
      cases hb : Nat.beq id k with
      | false => simp only [cond_false]; exact VR_mono S F (.ptrGone h1 h2)
      | true =>
        have hik := Nat.eq_of_beq_eq_true hb
        subst hik
        rw [hk'] at h1
        cases h1
        rw [hl] at h2
        cases h2
    | mp h1 h2 => exact VR_mono S F (.mp h1 h2)
    | mpGone h1 h2 => exact VR_mono S F (.mpGone h1 h2)
    | @agg cs vs h1 h2 ih =>
      refine .agg (by simp only [AV.frzL_map, List.length_map]; exact h1) fun j c v hc hv => ?_
      rw [AV.frzL_map, List.getElem?_map] at hc
      obtain ⟨c', hc', rfl⟩ := Option.map_eq_some_iff.1 hc
      exact ih j c' v hc' hv
    | @tup cs vs h1 h2 ih =>
      refine .tup (by simp only [AV.frzL_map, List.length_map]; exact h1) fun j c v hc hv => ?_
      rw [AV.frzL_map, List.getElem?_map] at hc
      obtain ⟨c', hc', rfl⟩ := Option.map_eq_some_iff.1 hc
      exact ih j c' v hc' hv
    | ifc h ih => exact .ifc ih
    | opt h h' ih => exact .opt ih h'
    | @clo fn fs cp vf vc h1 h2 h3 h4 ih1 ih2 =>
      refine .clo (by simp only [AV.frzL_map, List.length_map]; exact h1) (by simp only [AV.frzL_map, List.length_map]; exact h2) (fun j c v hc hv => ?_) (fun j c v hc hv => ?_)
      · rw [AV.frzL_map, List.getElem?_map] at hc
        obtain ⟨c', hc', rfl⟩ := Option.map_eq_some_iff.1 hc
        exact ih1 j c' v hc' hv
      · rw [AV.frzL_map, List.getElem?_map] at hc
        obtain ⟨c', hc', rfl⟩ := Option.map_eq_some_iff.1 hc
        exact ih2 j c' v hc' hv
  refine ⟨O1, S.step F (fun id x hx hl' => ?_) (fun i j ri rj hi hj hli hlj he => ?_) (fun id x hx hl' hO => ?_) (fun b hb => ?_), F, V⟩
  · rcases hback id x hx with ⟨_, rfl⟩ | ⟨y, h1, h2, rfl⟩
    · cases hl'
    · refine .inr ?_
      have hr := S.rows id y h2
      cases y with
      | gone => trivial
      | map kd es =>
        obtain ⟨ents, clock, g1, g2, g3, g4⟩ := hr
        refine ⟨ents, clock, g1, by simpa [frzE_map] using g2, by simpa [frzE_map] using g3, fun j n a hj => ?_⟩
        rw [frzE_map, List.getElem?_map] at hj
        obtain ⟨⟨n', a'⟩, hj', he⟩ := Option.map_eq_some_iff.1 hj
        simp only [Prod.mk.injEq] at he
        obtain ⟨rfl, rfl⟩ := he
        obtain ⟨e, q1, q2, q3⟩ := g4 j n' a' hj'
        exact ⟨e, q1, q2, V _ _ q3⟩
      | cells e sz cs =>
        obtain ⟨cur, g1, g2, g3⟩ := hr
        refine ⟨cur, g1, by simpa [frzRow, Row.len, AV.frzL_map] using g2, fun j a hj => ?_⟩
        simp only [frzRow, Row.cs, AV.frzL_map, List.getElem?_map] at hj
        obtain ⟨a', hj', rfl⟩ := Option.map_eq_some_iff.1 hj
        obtain ⟨v, q1, q2⟩ := g3 j a' hj'
        exact ⟨v, q1, V _ _ q2⟩
      | bytes e bs =>
        obtain ⟨cur, g1, g2, g3⟩ := hr
        refine ⟨cur, g1, g2, fun j a hj => ?_⟩
        obtain ⟨v, q1, q2⟩ := g3 j a hj
        refine ⟨v, q1, ?_⟩
        simp only [frzRow, Row.cs, List.getElem?_map] at hj
        obtain ⟨b, hb, rfl⟩ := Option.map_eq_some_iff.1 hj
        have := V _ _ q2
        simpa [u8, AV.frz] using this
  · rcases hback i ri hi with ⟨_, rfl⟩ | ⟨y, h1, h2, rfl⟩
    · cases hli
    · rcases hback j rj hj with ⟨_, rfl⟩ | ⟨y', h1', h2', rfl⟩
      · cases hlj
      · rw [Row.frz_live] at hli hlj
        exact S.inj i j y y' h2 h2' hli hlj he
  · rcases hback id x hx with ⟨_, rfl⟩ | ⟨y, h1, h2, rfl⟩
    · cases hl'
    · rw [Row.frz_live] at hl'
      rcases hO with hO | hO
      · exact S.notO id y h2 hl' hO
      · exact h1 (S.inj id k y r h2 hk' hl' hl hO)
  · rcases hb with hb | hb
    · exact S.lt b hb
    · rw [hb]; exact hblk

end

section
variable {P : Program} {G : Env}

def Stat (P : Program) (s s' : St) : Prop :=
  ((∀ i, s.nx ≤ i → s.h i = none) → ∀ i, s'.nx ≤ i → s'.h i = none) ∧ s'.n = s.n ∧ (AllP s'.c → AllP s.c ∧ ((∀ p ∈ s.df, IdleD P p.1) → ∀ p ∈ s'.df, IdleD P p.1))

theorem Stat.trans {s s1 s2 : St} (h : Stat P s s1) (h' : Stat P s1 s2) : Stat P s s2 :=
  ⟨fun f => h'.1 (h.1 f), h'.2.1.trans h.2.1, fun c => ⟨(h.2.2 (h'.2.2 c).1).1, fun d => (h'.2.2 c).2 ((h.2.2 (h'.2.2 c).1).2 d)⟩⟩

theorem evOps_stat {ops : Array Oper} : ∀ (l : List Oper) (k : Nat) (s s' : St) (fs : List Foot), evOps P G ops l k s = some (s', fs) →
    ((∀ i, s.nx + 64 * k ≤ i → s.h i = none) → ∀ i, s.nx + 64 * (k + l.length) ≤ i → s'.h i = none) ∧ s'.n = s.n ∧ s'.nx = s.nx ∧ (AllP s'.c → AllP s.c ∧ ((∀ p ∈ s.df, IdleD P p.1) → ∀ p ∈ s'.df, IdleD P p.1))
  | [], k, s, s', fs, he => by
    simp [evOps] at he
    obtain ⟨rfl, rfl⟩ := he
    exact ⟨fun h => by simpa using h, rfl, rfl, fun c => ⟨c, fun d => d⟩⟩
  | o :: l, k, s, s', fs, he => by
    unfold evOps at he
    split at he
    · split at he
      · cases hd : dstOk s.n o.dst with
        | false => simp [hd] at he
        | true =>
          simp only [hd, cond_true] at he
          obtain ⟨⟨s2, fs2⟩, h1, h2⟩ := Option.map_eq_some_iff.1 he
          simp only [Prod.mk.injEq] at h2
          obtain ⟨rfl, rfl⟩ := h2
          obtain ⟨q1, q2, q3, q4⟩ := evOps_stat l (k + 1) _ _ _ h1
          refine ⟨fun hf i hi => q1 (fun i hi => hf i (by simp at hi; omega)) i (by simp at hi ⊢; omega), q2, q3, fun c => ⟨(q4 c).1.2, fun d => (q4 c).2 fun p hp => ?_⟩⟩
          rcases List.mem_cons.1 hp with rfl | hp
          · exact (q4 c).1.1
          · exact d p hp
      · cases he
    · split at he
      · rename_i hst
        cases hd : dstOk s.n o.dst with
        | false => simp [hd] at he
        | true =>
          simp only [hd, cond_true] at he
          obtain ⟨⟨s2, fs2⟩, h1, h2⟩ := Option.map_eq_some_iff.1 he
          simp only [Prod.mk.injEq] at h2
          obtain ⟨rfl, rfl⟩ := h2
          obtain ⟨q1, q2, q3, q4⟩ := evOps_stat l (k + 1) _ _ _ h1
          exact ⟨fun hf i hi => q1 (fun i hi => fresh_upd hst hf i (by simp at hi; omega)) i (by simp at hi ⊢; omega), q2, q3, fun c => ⟨(AllP_append.1 (q4 c).1).2, fun d => (q4 c).2 d⟩⟩
      · cases he

theorem backRows_none {L : List Nat} {fr n : Nat} {H' : List Row} {h : Heap} (hL : ∀ id ∈ L, ∃ r, h id = some r) (hf : ∀ i, fr ≤ i → h i = none) (hn : H'.length ≤ n) :
    ∀ i, fr + n ≤ i → (h.upd (backRows L fr 0 H')) i = none := fun i hi => by
  cases hl : lookL (backRows L fr 0 H') i with
  | none => rw [upd_none hl]; exact hf i (by omega)
  | some r =>
    exfalso
    obtain ⟨k, r0, h1, h2, h3⟩ := backRows_spec H' 0 i r hl
    have hlt := (List.getElem?_eq_some_iff.1 h1).1
    rw [Nat.zero_add] at h2
    by_cases hk : k < L.length
    · have hid : L[k]? = some L[k] := List.getElem?_eq_some_iff.2 ⟨hk, rfl⟩
      rw [backTo_lt hid] at h2
      simp at h2
      obtain ⟨r', hr'⟩ := hL _ (List.mem_of_getElem? hid)
      rw [h2, hf i (by omega)] at hr'
      cases hr'
    · rw [backTo_ge (by omega)] at h2
      simp at h2
      omega

theorem loopE_stat {body : Code} {s : St} {orc : List Orc} {L : List Nat} {vals : List (Nat × AV)} {H : List Row} {ex : AExit} {vals' : List (Nat × AV)} {H' : List Row} {ex' : AExit} {s' : St}
    (he : loopE P G body s orc L vals H ex vals' H' = some (ex', s')) : Stat P s s' := by
  unfold loopE at he
  cases hb : (nodupB L && allLive s.h L && Nat.ble L.length H'.length && slotsOk s.n vals) with
  | false => simp [hb] at he
  | true =>
    simp only [hb, cond_true, Option.some.injEq, Prod.mk.injEq] at he
    obtain ⟨rfl, rfl⟩ := he
    simp only [Bool.and_eq_true] at hb
    refine ⟨fun hf => backRows_none (fun id hm => ?_) hf (Nat.le_refl _), rfl, fun c => ⟨c.2.2.2, fun d => d⟩⟩
    obtain ⟨r, hr, _⟩ := allLive_spec hb.1.1.2 id hm
    exact ⟨r, hr⟩

theorem frzGo_stat {rid : Nat} : ∀ (l : List Orc) (s s' : St), frzGo rid l s = some s' → Stat P s s'
  | [], s, s', he => by simp only [frzGo, Option.some.injEq] at he; subst he; exact ⟨fun h => h, rfl, fun c => ⟨c, fun d => d⟩⟩
  | x :: l, s, s', he => by
    have stay : frzGo rid (x :: l) s = some { s with orc := x :: l } → Stat P s s' := fun e => by
      rw [e] at he
      simp only [Option.some.injEq] at he
      subst he
      exact ⟨fun h => h, rfl, fun c => ⟨c, fun d => d⟩⟩
    cases x with
    | frz q t =>
      cases hq : Nat.beq q rid with
      | false => exact stay (by simp [frzGo, hq])
      | true =>
        simp only [frzGo, hq, cond_true] at he
        split at he
        · split at he
          · rename_i id off len cap hid _ r hr
            cases hc : canFrz r with
            | false => simp only [hc, cond_false] at he; exact frzGo_stat l _ _ he
            | true =>
              simp only [hc, cond_true] at he
              have hpre : Stat P s { s with tm := fun u => (s.tm u).frz id r, h := s.h.frz id r } :=
                ⟨fun hn i hi => by simp only [Heap.frz, hn i hi, Option.map_none], rfl, fun c => ⟨c, fun d => d⟩⟩
              exact hpre.trans (frzGo_stat l _ _ he)
          · cases he
        · exact frzGo_stat l _ _ he
    | _ => exact stay (by simp [frzGo])

theorem iterE_stat {f : St → Option (AExit × St)} (hf : ∀ s s' ex, f s = some (ex, s') → Stat P s s') : ∀ (n : Nat) (s s' : St) (ex : AExit), iterE f n s = some (ex, s') → Stat P s s'
  | 0, s, s', ex, he => by cases he
  | n + 1, s, s', ex, he => by
    unfold iterE at he
    split at he
    · rename_i s1 h1
      exact (hf _ _ _ h1).trans (iterE_stat hf n _ _ _ he)
    · exact hf _ _ _ he

theorem evCode_stat : ∀ (c : Code) (s s' : St) (ex : AExit), evCode P G c s = some (ex, s') → Stat P s s' := by
  intro c
  have triv : ∀ s : St, Stat P s s := fun s => ⟨fun h => h, rfl, fun c => ⟨c, fun d => d⟩⟩
  induction c with
  | skip => intro s s' ex he; simp [evCode] at he; obtain ⟨_, rfl⟩ := he; exact triv s
  | label l => intro s s' ex he; simp [evCode] at he; obtain ⟨_, rfl⟩ := he; exact triv s
  | region id ops draw =>
    intro s s' ex he
    simp only [evCode] at he
    split at he
    · rename_i s0 h0
      have hz := frzGo_stat (P := P) _ _ _ h0
      split at he
      · rename_i s1 fs h1
        obtain ⟨q1, q2, q3, q4⟩ := evOps_stat _ _ _ _ _ h1
        cases hb : (!draw || ordersOk ops fs) with
        | false => simp [hb] at he
        | true =>
          simp only [hb, cond_true, Option.some.injEq, Prod.mk.injEq] at he
          obtain ⟨_, rfl⟩ := he
          exact hz.trans ⟨fun hf i hi => q1 (by simpa using hf) i (by simpa using hi), q2, q4⟩
      · cases he
    · cases he
  | seq x y ih1 ih2 =>
    intro s s' ex he
    simp only [evCode] at he
    split at he
    · rename_i s1 h1; exact (ih1 _ _ _ h1).trans (ih2 _ _ _ he)
    · exact ih1 _ _ _ he
  | cond x a b ih1 ih2 =>
    intro s s' ex he
    simp only [evCode] at he
    split at he
    · rename_i t o orc' h1 h2
      have hpre : ∀ c, Stat P s { s with c := c :: s.c, orc := orc' } := fun c => ⟨fun h => h, rfl, fun k => ⟨k.2, fun d => d⟩⟩
      cases o with
      | true => simp only [cond_true] at he; exact (hpre _).trans (ih1 _ _ _ he)
      | false => simp only [cond_false] at he; exact (hpre _).trans (ih2 _ _ _ he)
    · rename_i t orc' h1 h2
      cases t with
      | true => simp only [cond_true] at he; exact ih1 _ _ _ he
      | false => simp only [cond_false] at he; exact ih2 _ _ _ he
    · cases he
  | block id c ih =>
    intro s s' ex he
    simp only [evCode] at he
    split at he
    · rename_i i s1 h1
      cases hb : Nat.beq i id with
      | true => simp only [hb, cond_true, Option.some.injEq, Prod.mk.injEq] at he; obtain ⟨_, rfl⟩ := he; exact ih _ _ _ h1
      | false => simp only [hb, cond_false, Option.some.injEq, Prod.mk.injEq] at he; obtain ⟨_, rfl⟩ := he; exact ih _ _ _ h1
    · exact ih _ _ _ he
  | exit id => intro s s' ex he; simp [evCode] at he; obtain ⟨_, rfl⟩ := he; exact triv s
  | ret => intro s s' ex he; simp [evCode] at he; obtain ⟨_, rfl⟩ := he; exact triv s
  | scope c ih => intro s s' ex he; simp only [evCode] at he; exact ih _ _ _ he
  | loop body ih =>
    intro s s' ex he
    simp only [evCode] at he
    split at he
    · rename_i L vals H ex1 vals' H' orc' h1; exact loopE_stat he
    · rename_i n orc' h1
      have hpre : Stat P s { s with orc := orc' } := ⟨fun h => h, rfl, fun k => ⟨k, fun d => d⟩⟩
      exact hpre.trans (iterE_stat ih n _ _ _ he)
    · cases he
  | _ => intro s s' ex he; simp [evCode] at he

theorem assocT_mem : ∀ {vals : List (Nat × AV)} {t : Nat} {a : AV}, assocT vals t = some a → (t, a) ∈ vals
  | [], t, a, h => by simp [assocT] at h
  | (u, b) :: l, t, a, h => by
    simp only [assocT] at h
    cases hb : Nat.beq u t with
    | true => simp only [hb, cond_true, Option.some.injEq] at h; subst h; rw [Nat.eq_of_beq_eq_true hb]; simp
    | false => simp only [hb, cond_false] at h; exact List.mem_cons_of_mem _ (assocT_mem h)

theorem leSlots_spec {L : List Nat} {tm : Nat → AV} : ∀ {vals : List (Nat × AV)}, leSlots L tm vals → ∀ t a, (t, a) ∈ vals → Le ((tm t).ren (idxIn L 0)) a
  | [], _, t, a, hm => by cases hm
  | (u, b) :: l, ⟨h1, h2⟩, t, a, hm => by
    rcases List.mem_cons.1 hm with he | hm
    · cases he; exact h1
    · exact leSlots_spec h2 t a hm

theorem rounds_mono' {c : Code} {Q Q' : Exit → Act → World → Prop} (hq : ∀ e a w, Q e a w → Q' e a w) : ∀ (k : Nat) (a : Act) (w : World), Code.rounds P c Q k a w → Code.rounds P c Q' k a w
  | 0, a, w, h => h
  | k + 1, a, w, h => by
    rw [rounds_succ] at h ⊢
    refine wp_mono h fun e a' w' he => ?_
    cases e <;> first | exact rounds_mono' hq k a' w' he | exact hq _ _ _ he

theorem loop_sound {B : List Deferred} {body : Code} {s : St} {orc : List Orc} {L : List Nat} {vals : List (Nat × AV)} {H : List Row} {ex : AExit} {vals' : List (Nat × AV)} {H' : List Row} {ex' : AExit} {s' : St}
    {ρ : Lay} {O : Nat → Prop} {a : Act} {w : World} (he : loopE P G body s orc L vals H ex vals' H' = some (ex', s')) (hC : AllP s'.c) (hf : ∀ i, s.nx ≤ i → s.h i = none) (I : Inv G B ρ O s a w) :
    (Code.loop body).wp P (fun e a' w' => e = ex'.toExit ∧ Goes G B ρ s.h O w s' a' w') a w := by
  unfold loopE at he
  cases hb : (nodupB L && allLive s.h L && Nat.ble L.length H'.length && slotsOk s.n vals) with
  | false => simp [hb] at he
  | true =>
    simp only [hb, cond_true, Option.some.injEq, Prod.mk.injEq] at he
    obtain ⟨rfl, rfl⟩ := he
    simp only [Bool.and_eq_true] at hb
    obtain ⟨⟨⟨b1, b2⟩, b3⟩, b4⟩ := hb
    have b3' := Nat.le_of_ble_eq_true b3
    obtain ⟨c1, c2, c3, c4⟩ := hC
    have K : SubOk s.h L H := SubOk.of (fun id r h => h) b1 b2 c3
    refine wp_mono (c1 O (layOf ρ L) a w (K.sim I.sim) I.slots.1 fun t av hm => ?_) fun e a' w' hq => ?_
    · exact leSlots_spec c2 t av hm _ _ _ _ _ (VR_ren K.ren (I.slots.2 t))
    · obtain ⟨ρ2, O2, p1, p2, p3, p4, p5, p6⟩ := hq
      obtain ⟨q1, q2, q3⟩ := sub_back K I.sim b3' (fun i i1 _ => hf i i1) p5 p6
      refine ⟨p1, _, O2, ⟨q2, ⟨p2, fun t => ?_⟩, by rw [p3]; exact I.defs⟩, q3⟩
      show VR _ _ _ _ (((assocT vals' t).map (AV.ren (backTo L s.nx))).getD .dead) _
      cases hx : assocT vals' t with
      | none => exact .dr (.dead _)
      | some av => exact VR_ren q1 (p4 t av (assocT_mem hx))

theorem frzGo_sound {B : List Deferred} {rid : Nat} : ∀ (l : List Orc) (s s' : St) (ρ : Lay) (O : Nat → Prop) (a : Act) (w : World), frzGo rid l s = some s' → Inv G B ρ O s a w → Goes G B ρ s.h O w s' a w
  | [], s, s', ρ, O, a, w, he, I => by simp only [frzGo, Option.some.injEq] at he; subst he; exact ⟨ρ, O, ⟨I.sim, I.slots, I.defs⟩, Fr.refl _ _ _ _⟩
  | x :: l, s, s', ρ, O, a, w, he, I => by
    have stay : frzGo rid (x :: l) s = some { s with orc := x :: l } → Goes G B ρ s.h O w s' a w := fun e => by
      rw [e] at he
      simp only [Option.some.injEq] at he
      subst he
      exact ⟨ρ, O, ⟨I.sim, I.slots, I.defs⟩, Fr.refl _ _ _ _⟩
    cases x with
    | frz q t =>
      cases hq : Nat.beq q rid with
      | false => exact stay (by simp [frzGo, hq])
      | true =>
        simp only [frzGo, hq, cond_true] at he
        split at he
        · split at he
          · rename_i id off len cap hid _ r hr
            cases hc : canFrz r with
            | false => simp only [hc, cond_false] at he; exact frzGo_sound l _ _ ρ O a w he I
            | true =>
              simp only [hc, cond_true] at he
              obtain ⟨O1, S1, F1, V1⟩ := freezeH (hN := s.h.frz id r) I.sim hr hc
                (fun j x hj => by
                  by_cases hjk : j = id
                  · subst hjk; simp [Heap.frz, hj]
                  · have : Nat.beq j id = false := by cases hb : Nat.beq j id with | false => rfl | true => exact absurd (Nat.eq_of_beq_eq_true hb) hjk
                    simp [Heap.frz, hj, this, hjk])
                (fun j x hj => by
                  obtain ⟨y, hy, hxe⟩ := Option.map_eq_some_iff.1 hj
                  by_cases hjk : j = id
                  · subst hjk; simp at hxe; exact .inl ⟨rfl, hxe.symm⟩
                  · have : Nat.beq j id = false := by cases hb : Nat.beq j id with | false => rfl | true => exact absurd (Nat.eq_of_beq_eq_true hb) hjk
                    simp only [this, cond_false] at hxe
                    exact .inr ⟨y, hjk, hy, hxe.symm⟩)
              obtain ⟨ρ2, O2, I2, F2⟩ := frzGo_sound l { s with tm := fun u => (s.tm u).frz id r, h := s.h.frz id r } s' ρ O1 a w he ⟨S1, ⟨I.slots.1, fun t => V1 _ _ (I.slots.2 t)⟩, I.defs⟩
              exact ⟨ρ2, O2, I2, F1.trans F2⟩
          · cases he
        · exact frzGo_sound l _ _ ρ O a w he I
    | _ => exact stay (by simp [frzGo])

theorem iterE_sound {B : List Deferred} {body : Code} {f : St → Option (AExit × St)} (hst : ∀ s s' ex, f s = some (ex, s') → Stat P s s')
    (hf : ∀ (s s' : St) (ex : AExit) (ρ : Lay) (O : Nat → Prop) (a : Act) (w : World), f s = some (ex, s') → AllP s'.c → (∀ i, s.nx ≤ i → s.h i = none) → Inv G B ρ O s a w →
      body.wp P (fun e a' w' => e = ex.toExit ∧ Goes G B ρ s.h O w s' a' w') a w) :
    ∀ (n : Nat) (s s' : St) (ex : AExit) (ρ : Lay) (O : Nat → Prop) (a : Act) (w : World), iterE f n s = some (ex, s') → AllP s'.c → (∀ i, s.nx ≤ i → s.h i = none) → Inv G B ρ O s a w →
      Code.rounds P body (fun e a' w' => e = ex.toExit ∧ Goes G B ρ s.h O w s' a' w') n a w
  | 0, s, s', ex, ρ, O, a, w, he, _, _, _ => by cases he
  | n + 1, s, s', ex, ρ, O, a, w, he, hC, hnx, I => by
    unfold iterE at he
    rw [rounds_succ]
    split at he
    · rename_i s1 h1
      have st := iterE_stat hst n _ _ _ he
      have st1 := hst _ _ _ h1
      refine wp_mono (hf _ _ _ ρ O a w h1 (st.2.2 hC).1 hnx I) fun e a' w' ⟨e1, ρ1, O1, I1, F1⟩ => ?_
      subst e1
      refine rounds_mono' (fun e a'' w'' ⟨e2, ρ2, O2, I2, F2⟩ => ⟨e2, ρ2, O2, I2, F1.trans F2⟩) n a' w' (iterE_sound hst hf n _ _ _ ρ1 O1 a' w' he hC (st1.1 hnx) I1)
    · rename_i hne
      refine wp_mono (hf _ _ _ ρ O a w he hC hnx I) fun e a' w' ⟨e1, g⟩ => ?_
      subst e1
      cases ex with
      | normal => exact absurd he (hne s')
      | exit id => exact ⟨rfl, g⟩
      | ret => exact ⟨rfl, g⟩

/-- CODE. -/
theorem evCode_sound {B : List Deferred} (hm : P.follows .mixedOrders = true) : ∀ (c : Code) (s s' : St) (ex : AExit) (ρ : Lay) (O : Nat → Prop) (a : Act) (w : World), evCode P G c s = some (ex, s') → AllP s'.c →
    (∀ i, s.nx ≤ i → s.h i = none) → Inv G B ρ O s a w → c.wp P (fun e a' w' => e = ex.toExit ∧ Goes G B ρ s.h O w s' a' w') a w := by
  intro c
  have triv : ∀ (s : St) (ρ : Lay) (O : Nat → Prop) (a : Act) (w : World), Inv G B ρ O s a w → Goes G B ρ s.h O w s a w := fun s ρ O a w I => ⟨ρ, O, I, Fr.refl _ _ _ _⟩
  induction c with
  | skip => intro s s' ex ρ O a w he hC hf I; simp [evCode] at he; obtain ⟨rfl, rfl⟩ := he; exact wp_skip ⟨rfl, triv _ _ _ _ _ I⟩
  | label l => intro s s' ex ρ O a w he hC hf I; simp [evCode] at he; obtain ⟨rfl, rfl⟩ := he; exact wp_label ⟨rfl, triv _ _ _ _ _ I⟩
  | region id ops draw =>
    intro s s' ex ρ O a w he hC hf I
    simp only [evCode] at he
    split at he
    · rename_i s0 h0
      have hf0 := (frzGo_stat (P := P) _ _ _ h0).1 hf
      obtain ⟨ρ0, O0, I0, F0⟩ := frzGo_sound _ _ _ ρ O a w h0 I
      split at he
      · rename_i s1 fs h1
        cases hb : (!draw || ordersOk ops fs) with
        | false => simp [hb] at he
        | true =>
          simp only [hb, cond_true, Option.some.injEq, Prod.mk.injEq] at he
          obtain ⟨rfl, rfl⟩ := he
          have hgo : ∀ a' w', Goes G B ρ0 s0.h O0 w s1 a' w' → Goes G B ρ s.h O w { s1 with nx := s0.nx + 64 * ops.toList.length } a' w' := fun a' w' ⟨ρ', O', I', F'⟩ => ⟨ρ', O', ⟨I'.sim, I'.slots, I'.defs⟩, F0.trans F'⟩
          cases draw with
          | false => exact wp_region_list (evOps_seq ops.toList 0 s0 s1 fs ρ0 O0 a w h1 hC (by simpa using hf0) I0 fun a' w' g => ⟨rfl, hgo a' w' g⟩).2.2.2
          | true => exact region_any hm h1 (by simpa using hb) hC hf0 I0 fun a' w' g => ⟨rfl, hgo a' w' g⟩
      · cases he
    · cases he
  | seq x y ih1 ih2 =>
    intro s s' ex ρ O a w he hC hf I
    simp only [evCode] at he
    split at he
    · rename_i s1 h1
      have st := evCode_stat y _ _ _ he
      have st1 := evCode_stat x _ _ _ h1
      refine wp_seq (wp_mono (ih1 _ _ _ ρ O a w h1 (st.2.2 hC).1 hf I) fun e a' w' ⟨e1, ρ1, O1, I1, F1⟩ => ?_)
      subst e1
      refine wp_mono (ih2 _ _ _ ρ1 O1 a' w' he hC (st1.1 hf) I1) fun e a'' w'' ⟨e2, ρ2, O2, I2, F2⟩ => ⟨e2, ρ2, O2, I2, F1.trans F2⟩
    · rename_i hne
      refine wp_seq (wp_mono (ih1 _ _ _ ρ O a w he hC hf I) fun e a' w' ⟨e1, g⟩ => ?_)
      subst e1
      cases ex with
      | normal => exact absurd he (hne s')
      | exit id => exact ⟨rfl, g⟩
      | ret => exact ⟨rfl, g⟩
  | cond x p q ih1 ih2 =>
    intro s s' ex ρ O a w he hC hf I
    simp only [evCode] at he
    split at he
    · rename_i t o orc' h1 h2
      have hx := I.slots.eval x
      rw [h1] at hx
      have hv := VR_lit hx
      have I' : ∀ c, Inv G B ρ O { s with c := c :: s.c, orc := orc' } a w := fun c => ⟨I.sim, I.slots, I.defs⟩
      cases o with
      | true =>
        simp only [cond_true] at he
        have ht : t = true := ((evCode_stat p _ _ _ he).2.2 hC).1.1
        subst ht
        have hh := ih1 _ _ _ ρ O a w he hC hf (I' _)
        exact wp_cond_true hv hh
      | false =>
        simp only [cond_false] at he
        have ht : t = false := ((evCode_stat q _ _ _ he).2.2 hC).1.1
        subst ht
        have hh := ih2 _ _ _ ρ O a w he hC hf (I' _)
        exact wp_cond_false hv hh
    · rename_i t orc' h1 h2
      have hx := I.slots.eval x
      rw [h1] at hx
      have hv := VR_lit hx
      cases t with
      | true => simp only [cond_true] at he; exact wp_cond_true hv (ih1 _ _ _ ρ O a w he hC hf I)
      | false => simp only [cond_false] at he; exact wp_cond_false hv (ih2 _ _ _ ρ O a w he hC hf I)
    · cases he
  | block id c ih =>
    intro s s' ex ρ O a w he hC hf I
    simp only [evCode] at he
    split at he
    · rename_i i s1 h1
      cases hb : Nat.beq i id with
      | true =>
        simp only [hb, cond_true, Option.some.injEq, Prod.mk.injEq] at he
        obtain ⟨rfl, rfl⟩ := he
        refine wp_block (wp_mono (ih _ _ _ ρ O a w h1 hC hf I) fun e a' w' ⟨e1, g⟩ => ?_)
        subst e1
        simp only [AExit.toExit, Exit.inBlock, Nat.eq_of_beq_eq_true hb, if_true]
        exact ⟨trivial, g⟩
      | false =>
        simp only [hb, cond_false, Option.some.injEq, Prod.mk.injEq] at he
        obtain ⟨rfl, rfl⟩ := he
        refine wp_block (wp_mono (ih _ _ _ ρ O a w h1 hC hf I) fun e a' w' ⟨e1, g⟩ => ?_)
        subst e1
        have hne : i ≠ id := fun h => by subst h; simp at hb
        simp only [AExit.toExit, Exit.inBlock, hne, if_false]
        exact ⟨trivial, g⟩
    · rename_i hne
      refine wp_block (wp_mono (ih _ _ _ ρ O a w he hC hf I) fun e a' w' ⟨e1, g⟩ => ?_)
      subst e1
      cases ex with
      | normal => exact ⟨rfl, g⟩
      | exit id' => exact absurd he (hne id' s')
      | ret => exact ⟨rfl, g⟩
  | exit id => intro s s' ex ρ O a w he hC hf I; simp [evCode] at he; obtain ⟨rfl, rfl⟩ := he; exact wp_exit ⟨rfl, triv _ _ _ _ _ I⟩
  | ret => intro s s' ex ρ O a w he hC hf I; simp [evCode] at he; obtain ⟨rfl, rfl⟩ := he; exact wp_ret ⟨rfl, triv _ _ _ _ _ I⟩
  | scope c ih =>
    intro s s' ex ρ O a w he hC hf I
    simp only [evCode] at he
    refine wp_scope_straight (wp_mono (ih _ _ _ ρ O a w he hC hf I) fun e a' w' ⟨e1, g⟩ => ?_)
    subst e1
    cases ex <;> exact ⟨rfl, g⟩
  | loop body ih =>
    intro s s' ex ρ O a w he hC hf I
    simp only [evCode] at he
    split at he
    · rename_i L vals H ex1 vals' H' orc' h1; exact loop_sound he hC hf I
    · rename_i n orc' h1
      exact wp_loop_rounds n (iterE_sound (fun s s' ex h => evCode_stat body s s' ex h) ih n { s with orc := orc' } s' ex ρ O a w he hC hf ⟨I.sim, I.slots, I.defs⟩)
    · cases he
  | _ => intro s s' ex ρ O a w he; simp [evCode] at he

end
end Go.Ax
