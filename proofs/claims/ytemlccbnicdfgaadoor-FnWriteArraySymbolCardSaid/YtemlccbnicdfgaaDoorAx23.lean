/-
  An abstract machine for Go functions (part 23): rows that nobody writes any more become data that are told by value.
-/
import Derived.Test.YtemlccbnicdfgaaDoorAx22
set_option linter.unusedVariables false
set_option linter.unusedSimpArgs false
namespace Go.Ax

mutual
def AV.closed : AV → Bool
  | .own .. => false
  | .ptr .. => false
  | .mp _ => false
  | .tup _ => false
  | .agg cs => AV.closedL cs
  | .ifc _ v => AV.closed v
  | .clo _ fs cp => AV.closedL fs && AV.closedL cp
  | .dead => true
  | .lit _ => true
  | .bts _ => true
  | .ro .. => true
  | .rp .. => true
def AV.closedL : List AV → Bool
  | [] => true
  | a :: l => AV.closed a && AV.closedL l
end

theorem closedL_mem : ∀ {l : List AV}, AV.closedL l = true → ∀ a ∈ l, a.closed = true
  | [], _, a, h => by cases h
  | b :: l, hl, a, h => by
    simp only [AV.closedL, Bool.and_eq_true] at hl
    rcases List.mem_cons.1 h with rfl | h
    · exact hl.1
    · exact closedL_mem hl.2 a h

theorem VR_closed {ρ : Lay} {h : Heap} {O : Nat → Prop} {w : World} {a : AV} {v : Value} (hv : VR ρ h O w a v) (hc : a.closed = true) : DR O w a v := by
  induction hv with
  | dr hd => exact hd
  | own => simp [AV.closed] at hc
  | ownGone => simp [AV.closed] at hc
  | ptr => simp [AV.closed] at hc
  | ptrGone => simp [AV.closed] at hc
  | mp => simp [AV.closed] at hc
  | mpGone => simp [AV.closed] at hc
  | tup => simp [AV.closed] at hc
  | agg h1 h2 ih =>
    simp only [AV.closed] at hc
    exact .agg h1 fun j c v hj hv => ih j c v hj hv (closedL_mem hc c (List.mem_of_getElem? hj))
  | ifc h1 ih => simp only [AV.closed] at hc; exact .ifc (ih hc)
  | clo h1 h2 h3 h4 ih1 ih2 =>
    simp only [AV.closed, Bool.and_eq_true] at hc
    exact .clo h1 h2 (fun j c v hj hv => ih1 j c v hj hv (closedL_mem hc.1 c (List.mem_of_getElem? hj))) (fun j c v hj hv => ih2 j c v hj hv (closedL_mem hc.2 c (List.mem_of_getElem? hj)))

/-- A slice of a row, a pointer into it, by value. -/
def frzOwn (r : Row) (off len : Nat) : AV :=
  match r with
  | .bytes _ bs => .bts ((bs.drop off).take len)
  | .cells _ sz cs => .ro sz len (fun i => (cs.drop (off + i * sz)).take sz)
  | _ => .dead

mutual
def AV.frz (k : Nat) (r : Row) : AV → AV
  | .own id off len cap => bif Nat.beq id k then frzOwn r off len else .own id off len cap
  | .ptr id off => bif Nat.beq id k then .rp r.cs off else .ptr id off
  | .agg cs => .agg (AV.frzL k r cs)
  | .tup cs => .tup (AV.frzL k r cs)
  | .ifc t v => .ifc t (AV.frz k r v)
  | .clo fn fs cp => .clo fn (AV.frzL k r fs) (AV.frzL k r cp)
  | .mp id => .mp id
  | .dead => .dead
  | .lit v => .lit v
  | .bts bs => .bts bs
  | .ro sz n get => .ro sz n get
  | .rp cs off => .rp cs off
def AV.frzL (k : Nat) (r : Row) : List AV → List AV
  | [] => []
  | a :: l => AV.frz k r a :: AV.frzL k r l
end

def frzE (k : Nat) (r : Row) : List (Int × AV) → List (Int × AV)
  | [] => []
  | (n, a) :: l => (n, AV.frz k r a) :: frzE k r l

def frzRow (k : Nat) (r : Row) : Row → Row
  | .gone => .gone
  | .cells e sz cs => .cells e sz (AV.frzL k r cs)
  | .bytes e bs => .bytes e bs
  | .map kd es => .map kd (frzE k r es)

def frzH (k : Nat) (r : Row) : Nat → List Row → List Row
  | _, [] => []
  | i, x :: l => (bif Nat.beq i k then .gone else frzRow k r x) :: frzH k r (i + 1) l

theorem AV.frzL_map (k : Nat) (r : Row) : ∀ l, AV.frzL k r l = l.map (AV.frz k r)
  | [] => rfl
  | a :: l => by simp [AV.frzL, AV.frzL_map k r l]
theorem frzE_map (k : Nat) (r : Row) : ∀ l, frzE k r l = l.map (fun x => (x.1, AV.frz k r x.2))
  | [] => rfl
  | (n, a) :: l => by simp [frzE, frzE_map k r l]
theorem frzH_get (k : Nat) (r : Row) : ∀ (l : List Row) (i j : Nat), (frzH k r i l)[j]? = (l[j]?).map fun x => if i + j = k then .gone else frzRow k r x
  | [], i, j => by simp [frzH]
  | x :: l, i, 0 => by
    simp only [frzH, List.getElem?_cons_zero, Option.map_some, Nat.add_zero]
    cases hb : Nat.beq i k with
    | true => simp [Nat.eq_of_beq_eq_true hb]
    | false =>
      have : i ≠ k := fun h => by subst h; simp at hb
      simp [this]
  | x :: l, i, j + 1 => by
    simp only [frzH, List.getElem?_cons_succ]
    rw [frzH_get k r l (i + 1) j, show i + 1 + j = i + (j + 1) by omega]

theorem Row.frz_live (k : Nat) (r x : Row) : (frzRow k r x).live = x.live := by cases x <;> rfl
theorem Row.frz_isMap (k : Nat) (r x : Row) : (frzRow k r x).isMap = x.isMap := by cases x <;> rfl
theorem Row.frz_sz (k : Nat) (r x : Row) : (frzRow k r x).sz = x.sz := by cases x <;> rfl
theorem Row.frz_elem (k : Nat) (r x : Row) : (frzRow k r x).elem = x.elem := by cases x <;> rfl
theorem Row.frz_len (k : Nat) (r x : Row) : (frzRow k r x).len = x.len := by cases x <;> simp [frzRow, Row.len, AV.frzL_map]
theorem Row.frz_cs (k : Nat) (r x : Row) : (frzRow k r x).cs = AV.frzL k r x.cs := by
  cases x with
  | bytes e bs => simp [frzRow, Row.cs, AV.frzL_map, u8, AV.frz]
  | _ => rfl

section
variable {P : Program} {G : Env} {ρ : Lay} {O : Nat → Prop} {w : World}

/-- May a row be told by value? -/
def canFrz (r : Row) : Bool :=
  match r with
  | .bytes .. => true
  | .cells _ _ cs => AV.closedL cs
  | _ => false

theorem canFrz_spec {r : Row} (h : canFrz r = true) : r.live = true ∧ r.isMap = false ∧ ∀ c ∈ r.cs, c.closed = true := by
  cases r with
  | bytes e bs => exact ⟨rfl, rfl, fun c hc => by simp only [Row.cs, List.mem_map] at hc; obtain ⟨b, _, rfl⟩ := hc; rfl⟩
  | cells e sz cs => exact ⟨rfl, rfl, fun c hc => closedL_mem h c hc⟩
  | gone => cases h
  | map => cases h

theorem freeze {H : List Row} {k : Nat} {r : Row} (S : Sim G ρ (hL H) O w) (hk : H[k]? = some r) (hc : canFrz r = true) :
    ∃ O1, Sim G ρ (hL (frzH k r 0 H)) O1 w ∧ Fr ρ (hL H) O w ρ (hL (frzH k r 0 H)) O1 w ∧ ∀ a v, VR ρ (hL H) O w a v → VR ρ (hL (frzH k r 0 H)) O1 w (a.frz k r) v := by
  obtain ⟨hl, hm, hcl⟩ := canFrz_spec hc
  have hk' : hL H k = some r := by rw [hL_get]; exact hk
  have hblk := S.block_lt hk' hl
  let O1 : Nat → Prop := fun b => O b ∨ b = (ρ k).1
  have hget : ∀ j x, hL H j = some x → hL (frzH k r 0 H) j = some (if j = k then .gone else frzRow k r x) := fun j x hj => by
    rw [hL_get] at hj ⊢
    rw [frzH_get, hj]
    simp
  have hback : ∀ j x, hL (frzH k r 0 H) j = some x → (j = k ∧ x = .gone) ∨ ∃ y, j ≠ k ∧ hL H j = some y ∧ x = frzRow k r y := fun j x hj => by
    rw [hL_get, frzH_get] at hj
    obtain ⟨y, hy, he⟩ := Option.map_eq_some_iff.1 hj
    rw [Nat.zero_add] at he
    by_cases hjk : j = k
    · rw [if_pos hjk] at he; exact .inl ⟨hjk, he.symm⟩
    · rw [if_neg hjk] at he; exact .inr ⟨y, hjk, by rw [hL_get]; exact hy, he.symm⟩
  have F : Fr ρ (hL H) O w ρ (hL (frzH k r 0 H)) O1 w :=
    { os := rfl, tape := rfl, output := rfl, size := Nat.le_refl _, keep := fun _ _ _ => rfl
      dom := fun id x hx => ⟨_, hget id x hx, fun hl' => by
        by_cases hik : id = k
        · rw [if_pos hik] at hl'; cases hl'
        · rw [if_neg hik] at hl' ⊢
          rw [Row.frz_live] at hl'
          exact ⟨hl', rfl, Row.frz_isMap _ _ _, Row.frz_sz _ _ _, by rw [Row.frz_len]; exact Nat.le_refl _, rfl⟩⟩
      own := fun id x hx hl' => by
        rcases hback id x hx with ⟨_, rfl⟩ | ⟨y, h1, h2, rfl⟩
        · cases hl'
        · rw [Row.frz_live] at hl'; exact .inl ⟨id, y, h2, hl', rfl⟩
      old := fun b hb => .inl hb
      oldnew := fun b hb => by
        rcases hb with hb | hb
        · exact .inl hb
        · exact .inr (.inl ⟨k, r, hk', hl, hb.symm⟩) }
  have hO1 : O1 (ρ k).1 := .inr rfl
  have hcell : ∀ (j : Nat) c, r.cs[j]? = some c → ∃ u, w.cell? ⟨(ρ k).1, (ρ k).2 + j, none⟩ = some u ∧ DR O1 w c u := fun j c hj => by
    obtain ⟨u, h1, h2⟩ := row_cell S hk' hl hm j c hj
    exact ⟨u, h1, DR_mono F.old (S.oldKept F) (VR_closed h2 (hcl c (List.mem_of_getElem? hj)))⟩
  have V : ∀ a v, VR ρ (hL H) O w a v → VR ρ (hL (frzH k r 0 H)) O1 w (a.frz k r) v := by
    intro a v hv
    induction hv with
    | @dr a v hd =>
      have key : ∀ {a v}, DR O w a v → VR ρ (hL (frzH k r 0 H)) O1 w (a.frz k r) v := by
        intro a v hd
        have hd' := DR_mono F.old (S.oldKept F) hd
        clear hd
        induction hd' with
        | dead v => exact .dr (.dead v)
        | lit v => exact .dr (.lit v)
        | bts h1 h2 h3 h4 h5 => exact .dr (.bts h1 h2 h3 h4 h5)
        | btsnil => exact .dr .btsnil
        | ro val h1 h2 h3 h4 h5 h6 h7 => exact .dr (.ro val h1 h2 h3 h4 h5 h6 h7)
        | ronil => exact .dr .ronil
        | rp val h1 h2 h3 => exact .dr (.rp val h1 h2 h3)
        | @agg cs vs h1 h2 ih =>
          refine .agg (by simp only [AV.frzL_map, List.length_map]; exact h1) fun j c v hc hv => ?_
          rw [AV.frzL_map, List.getElem?_map] at hc
          obtain ⟨c', hc', rfl⟩ := Option.map_eq_some_iff.1 hc
          exact ih j c' v hc' hv
        | ifc h ih => exact .ifc ih
        | @clo fn fs cp vf vc h1 h2 h3 h4 ih1 ih2 =>
          refine .clo (by simp only [AV.frzL_map, List.length_map]; exact h1) (by simp only [AV.frzL_map, List.length_map]; exact h2) (fun j c v hc hv => ?_) (fun j c v hc hv => ?_)
          · rw [AV.frzL_map, List.getElem?_map] at hc
            obtain ⟨c', hc', rfl⟩ := Option.map_eq_some_iff.1 hc
            exact ih1 j c' v hc' hv
          · rw [AV.frzL_map, List.getElem?_map] at hc
            obtain ⟨c', hc', rfl⟩ := Option.map_eq_some_iff.1 hc
            exact ih2 j c' v hc' hv
      exact key hd
    | @own id off len cap x a c m h1 h2 h3 h4 h5 h6 h7 h8 h8' h9 h10 h11 =>
      simp only [AV.frz]
      cases hb : Nat.beq id k with
      | false => simp only [cond_false]; exact VR_mono S F (.own h1 h2 h3 h4 h5 h6 h7 h8 h8' h9 h10 h11)
      | true =>
        have hik := Nat.eq_of_beq_eq_true hb
        subst hik
        rw [hk'] at h1
        cases h1
        simp only [cond_true]
        cases r with
        | gone => cases hl
        | map => cases hm
        | bytes e bs =>
          simp only [Row.sz, Row.len, Nat.mul_one] at h4 h10
          simp only [frzOwn]
          have hlen : ((bs.drop off).take len).length = len := by simp; omega
          have hx : VR ρ (hL (frzH id (.bytes e bs) 0 H)) O1 w (.bts ((bs.drop off).take len)) (.slice (some a) ((bs.drop off).take len).length c) := by
            refine .dr (.bts (fun _ => h5) (fun _ => by rw [h6]; exact hO1) (by rw [hlen]; exact h8) h8' fun i b hi => ?_)
            have hlt := (List.getElem?_eq_some_iff.1 hi).1
            rw [hlen] at hlt
            rw [List.getElem?_take, if_pos hlt, List.getElem?_drop] at hi
            obtain ⟨u, e1, e2⟩ := hcell (off + i) (u8 b) (by simp [Row.cs, hi])
            obtain ⟨b', o', s'⟩ := a
            simp at h5 h6
            subst h5
            have h7' : o' = (ρ id).2 + off := h7 (.inl (by omega))
            cases e2
            rw [add_none, h6, h7', Nat.add_assoc]
            exact e1
          rw [hlen] at hx
          exact hx
        | cells e sz cs =>
          simp only [Row.sz, Row.len] at h4 h10
          simp only [frzOwn]
          let val : Nat → Nat → Value := fun i j => (w.cell? ⟨(ρ id).1, (ρ id).2 + (off + i * sz + j), none⟩).getD undef
          have hfit : ∀ i, i < len → off + i * sz + sz ≤ cs.length := fun i hi => by
            have : (i + 1) * sz ≤ len * sz := Nat.mul_le_mul_right _ hi
            rw [Nat.add_mul, Nat.one_mul] at this
            omega
          have hval : ∀ i j c, i < len → ((cs.drop (off + i * sz)).take sz)[j]? = some c → w.cell? ⟨(ρ id).1, (ρ id).2 + (off + i * sz + j), none⟩ = some (val i j) ∧ DR O1 w c (val i j) := fun i j c hi hj => by
            have hlt := (List.getElem?_eq_some_iff.1 hj).1
            simp at hlt
            rw [List.getElem?_take, if_pos (by omega), List.getElem?_drop] at hj
            obtain ⟨u, e1, e2⟩ := hcell (off + i * sz + j) c (by simpa [Row.cs] using hj)
            have : val i j = u := by simp only [val, e1, Option.getD_some]
            rw [this]
            exact ⟨e1, e2⟩
          refine .dr (.ro val (fun _ => h5) (fun _ => by rw [h6]; exact hO1) h8 h8' (fun i hi => by have := hfit i hi; simp; omega) (fun i j c hi hj => ?_) (fun i j c hi hj => (hval i j c hi hj).2))
          obtain ⟨b', o', s'⟩ := a
          simp at h5 h6
          subst h5
          have h7' : o' = (ρ id).2 + off := h7 (.inl (by omega))
          rw [add_none, h6, h7', show (ρ id).2 + off + (i * sz + j) = (ρ id).2 + (off + i * sz + j) by omega]
          exact (hval i j c hi hj).1
    | @ownGone id off len cap x a l c h1 h2 =>
      simp only [AV.frz]
      cases hb : Nat.beq id k with
      | false => simp only [cond_false]; exact VR_mono S F (.ownGone h1 h2)
      | true =>
        have hik := Nat.eq_of_beq_eq_true hb
        subst hik
        rw [hk'] at h1
        cases h1
        rw [hl] at h2
        cases h2
    | @ptr id off x h1 h2 h3 =>
      simp only [AV.frz]
      cases hb : Nat.beq id k with
      | false => simp only [cond_false]; exact VR_mono S F (.ptr h1 h2 h3)
      | true =>
        have hik := Nat.eq_of_beq_eq_true hb
        subst hik
        simp only [cond_true]
        refine .dr (.rp (fun j => (w.cell? ⟨(ρ id).1, (ρ id).2 + j, none⟩).getD undef) hO1 (fun j c hj => ?_) (fun j c hj => ?_))
        · obtain ⟨u, e1, e2⟩ := hcell j c hj
          rw [e1]; rfl
        · obtain ⟨u, e1, e2⟩ := hcell j c hj
          rw [e1]; exact e2
    | @ptrGone id off x a h1 h2 =>
      simp only [AV.frz]
      cases hb : Nat.beq id k with
      | false => simp only [cond_false]; exact VR_mono S F (.ptrGone h1 h2)
      | true =>
        have hik := Nat.eq_of_beq_eq_true hb
        subst hik
        rw [hk'] at h1
        cases h1
        rw [hl] at h2
        cases h2
    | mp h1 h2 => exact VR_mono S F (.mp h1 h2)
    | mpGone h1 h2 => exact VR_mono S F (.mpGone h1 h2)
    | @agg cs vs h1 h2 ih =>
      refine .agg (by simp only [AV.frzL_map, List.length_map]; exact h1) fun j c v hc hv => ?_
      rw [AV.frzL_map, List.getElem?_map] at hc
      obtain ⟨c', hc', rfl⟩ := Option.map_eq_some_iff.1 hc
      exact ih j c' v hc' hv
    | @tup cs vs h1 h2 ih =>
      refine .tup (by simp only [AV.frzL_map, List.length_map]; exact h1) fun j c v hc hv => ?_
      rw [AV.frzL_map, List.getElem?_map] at hc
      obtain ⟨c', hc', rfl⟩ := Option.map_eq_some_iff.1 hc
      exact ih j c' v hc' hv
    | ifc h ih => exact .ifc ih
    | @clo fn fs cp vf vc h1 h2 h3 h4 ih1 ih2 =>
      refine .clo (by simp only [AV.frzL_map, List.length_map]; exact h1) (by simp only [AV.frzL_map, List.length_map]; exact h2) (fun j c v hc hv => ?_) (fun j c v hc hv => ?_)
      · rw [AV.frzL_map, List.getElem?_map] at hc
        obtain ⟨c', hc', rfl⟩ := Option.map_eq_some_iff.1 hc
        exact ih1 j c' v hc' hv
      · rw [AV.frzL_map, List.getElem?_map] at hc
        obtain ⟨c', hc', rfl⟩ := Option.map_eq_some_iff.1 hc
        exact ih2 j c' v hc' hv
  refine ⟨O1, S.step F (fun id x hx hl' => ?_) (fun i j ri rj hi hj hli hlj he => ?_) (fun id x hx hl' hO => ?_) (fun b hb => ?_), F, V⟩
  · rcases hback id x hx with ⟨_, rfl⟩ | ⟨y, h1, h2, rfl⟩
    · cases hl'
    · refine .inr ?_
      have hr := S.rows id y h2
      cases y with
      | gone => trivial
      | map kd es =>
        obtain ⟨ents, clock, g1, g2, g3, g4⟩ := hr
        refine ⟨ents, clock, g1, by simpa [frzE_map] using g2, by simpa [frzE_map] using g3, fun j n a hj => ?_⟩
        rw [frzE_map, List.getElem?_map] at hj
        obtain ⟨⟨n', a'⟩, hj', he⟩ := Option.map_eq_some_iff.1 hj
        simp only [Prod.mk.injEq] at he
        obtain ⟨rfl, rfl⟩ := he
        obtain ⟨e, q1, q2, q3⟩ := g4 j n' a' hj'
        exact ⟨e, q1, q2, V _ _ q3⟩
      | cells e sz cs =>
        obtain ⟨cur, g1, g2, g3⟩ := hr
        refine ⟨cur, g1, by simpa [frzRow, Row.len, AV.frzL_map] using g2, fun j a hj => ?_⟩
        simp only [frzRow, Row.cs, AV.frzL_map, List.getElem?_map] at hj
        obtain ⟨a', hj', rfl⟩ := Option.map_eq_some_iff.1 hj
        obtain ⟨v, q1, q2⟩ := g3 j a' hj'
        exact ⟨v, q1, V _ _ q2⟩
      | bytes e bs =>
        obtain ⟨cur, g1, g2, g3⟩ := hr
        refine ⟨cur, g1, g2, fun j a hj => ?_⟩
        obtain ⟨v, q1, q2⟩ := g3 j a hj
        refine ⟨v, q1, ?_⟩
        simp only [frzRow, Row.cs, List.getElem?_map] at hj
        obtain ⟨b, hb, rfl⟩ := Option.map_eq_some_iff.1 hj
        have := V _ _ q2
        simpa [u8, AV.frz] using this
  · rcases hback i ri hi with ⟨_, rfl⟩ | ⟨y, h1, h2, rfl⟩
    · cases hli
    · rcases hback j rj hj with ⟨_, rfl⟩ | ⟨y', h1', h2', rfl⟩
      · cases hlj
      · rw [Row.frz_live] at hli hlj
        exact S.inj i j y y' h2 h2' hli hlj he
  · rcases hback id x hx with ⟨_, rfl⟩ | ⟨y, h1, h2, rfl⟩
    · cases hl'
    · rw [Row.frz_live] at hl'
      rcases hO with hO | hO
      · exact S.notO id y h2 hl' hO
      · exact h1 (S.inj id k y r h2 hk' hl' hl hO)
  · rcases hb with hb | hb
    · exact S.lt b hb
    · rw [hb]; exact hblk

/-- A row among the results, by value. -/
theorem ACalls.freezeRet {f : FuncId} {args : List AV} {H H' : List Row} {ret : AV} (k : Nat) {r : Row} (h : ACalls P G f args H ret H') (hk : H'[k]? = some r) (hc : canFrz r = true) :
    ACalls P G f args H (ret.frz k r) (frzH k r 0 H') :=
  ⟨h.1, fun O ρ w vals S hl hv => (h.2 O ρ w vals S hl hv).mono fun e w' ⟨v, ρ', O', he, hr, S', F'⟩ => by
    obtain ⟨O1, S1, F1, V1⟩ := freeze S' hk hc
    exact ⟨v, ρ', O1, he, V1 _ _ hr, S1, F'.trans F1⟩⟩

/-- A row among the arguments, by value. -/
theorem ACalls.freezeArg {f : FuncId} {args : List AV} {H H' : List Row} {ret : AV} (k : Nat) {r : Row} (hk : H[k]? = some r) (hc : canFrz r = true) (h : ACalls P G f (args.map (AV.frz k r)) (frzH k r 0 H) ret H') :
    ACalls P G f args H ret H' :=
  ⟨h.1, fun O ρ w vals S hl hv => by
    obtain ⟨O1, S1, F1, V1⟩ := freeze S hk hc
    refine (h.2 O1 ρ w vals S1 (by simpa using hl) fun j a v ha hv' => ?_).mono fun e w' ⟨v, ρ', O', he, hr, S', F'⟩ => ⟨v, ρ', O', he, hr, S', F1.trans F'⟩
    rw [List.getElem?_map] at ha
    obtain ⟨a', ha', rfl⟩ := Option.map_eq_some_iff.1 ha
    exact V1 _ _ (hv j a' v ha' hv')⟩

/-- Only some of the rows are told of. -/
theorem ACalls.only {f : FuncId} {args : List AV} {H H' : List Row} {ret : AV} (L : List Nat) (h : ACalls P G f args H ret H') (hL' : finOk H.length L (hL H') = true) :
    ACalls P G f args H (ret.ren (idxIn L 0)) (outRows L (hL H') L) :=
  ⟨h.1, fun O ρ w vals S hl hv => (h.2 O ρ w vals S hl hv).mono fun e w' ⟨v, ρ', O', he, hr, S', F'⟩ => by
    obtain ⟨q1, q2, q3⟩ := fin_out rfl rfl hL' S' F'
    exact ⟨v, _, O', he, VR_ren q1 hr, q2, q3⟩⟩

/-- Other words for the same contract; more arguments. -/
theorem ACalls.le {f : FuncId} {args args' : List AV} {H H' H2 : List Row} {ret ret' : AV} (h : ACalls P G f args H ret H') (ha : leAll args' args) (hret : Le ret ret') (hH : H' = H2) : ACalls P G f args' H ret' H2 := by
  subst hH
  obtain ⟨l1, l2⟩ := leAll_spec ha
  refine ⟨h.1, fun O ρ w vals S hl hv => (h.2 O ρ w vals S (by omega) fun j a v ha hv' => ?_).mono fun e w' ⟨v, ρ', O', he, hr, S', F'⟩ => ⟨v, ρ', O', he, hret _ _ _ _ _ hr, S', F'⟩⟩
  have hlt : j < args'.length := by rw [l1]; exact (List.getElem?_eq_some_iff.1 ha).1
  have h0 : args'[j]? = some args'[j] := List.getElem?_eq_some_iff.2 ⟨hlt, rfl⟩
  exact l2 j _ a h0 ha _ _ _ _ _ (hv j _ v h0 hv')

end
end Go.Ax
