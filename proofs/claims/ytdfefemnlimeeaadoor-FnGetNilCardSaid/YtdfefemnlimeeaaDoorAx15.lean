/-
  An abstract machine for Go functions (part 15): a run of something else in the middle, on some of the rows; calls.
-/
import Derived.Test.YtdfefemnlimeeaaDoorAx14
set_option linter.unusedVariables false
set_option linter.unusedSimpArgs false
namespace Go.Ax

theorem elemB_iff {l : List Nat} {x : Nat} : elemB l x = true ↔ x ∈ l := by
  induction l with
  | nil => simp [elemB]
  | cons y l ih =>
    simp only [elemB, List.mem_cons]
    cases hb : Nat.beq y x with
    | true => simp [(Nat.eq_of_beq_eq_true hb).symm]
    | false =>
      simp only [cond_false, ih]
      have : x ≠ y := fun e => by subst e; simp at hb
      simp [this]

theorem nodupB_spec : ∀ {l : List Nat}, nodupB l = true → ∀ (i j : Nat) x, l[i]? = some x → l[j]? = some x → i = j
  | [], _, i, j, x, hi, hj => by simp at hi
  | y :: l, hl, i, j, x, hi, hj => by
    unfold nodupB at hl
    cases hb : elemB l y with
    | true => simp [hb] at hl
    | false =>
      simp only [hb, cond_false] at hl
      have hn : y ∉ l := fun hm => by rw [elemB_iff.2 hm] at hb; cases hb
      cases i with
      | zero =>
        cases j with
        | zero => rfl
        | succ j => simp at hi hj; subst hi; exact absurd (List.mem_of_getElem? hj) hn
      | succ i =>
        cases j with
        | zero => simp at hi hj; subst hj; exact absurd (List.mem_of_getElem? hi) hn
        | succ j => simp at hi hj; rw [nodupB_spec hl i j x hi hj]

theorem idxIn_spec : ∀ {l : List Nat} {b id k : Nat}, idxIn l b id = some k → b ≤ k ∧ l[k - b]? = some id
  | [], b, id, k, h => by simp [idxIn] at h
  | x :: l, b, id, k, h => by
    unfold idxIn at h
    cases hb : Nat.beq x id with
    | true =>
      simp only [hb, cond_true, Option.some.injEq] at h
      subst h
      simp [Nat.eq_of_beq_eq_true hb]
    | false =>
      simp only [hb, cond_false] at h
      obtain ⟨h1, h2⟩ := idxIn_spec h
      refine ⟨by omega, ?_⟩
      rw [show k - b = (k - (b + 1)) + 1 by omega]
      simpa using h2

theorem hL_get {H : List Row} {k : Nat} : hL H k = H[k]? := nth_eq H k

theorem allLive_spec {h : Heap} : ∀ {L : List Nat}, allLive h L = true → ∀ id ∈ L, ∃ r, h id = some r ∧ r.live = true
  | [], _, id, hm => by cases hm
  | x :: L, hl, id, hm => by
    unfold allLive at hl
    split at hl
    · rename_i r hr
      cases hv : r.live with
      | false => simp [hv] at hl
      | true =>
        simp only [hv, cond_true] at hl
        rcases List.mem_cons.1 hm with rfl | hm
        · exact ⟨r, hr, hv⟩
        · exact allLive_spec hl id hm
    · cases hl

theorem leRows_spec {L0 : List Nat} {h : Heap} : ∀ {L : List Nat} {H : List Row}, leRows L0 h L H → H.length = L.length ∧
    ∀ (k id : Nat), L[k]? = some id → ∃ r' r, h id = some r' ∧ H[k]? = some r ∧ RowLe (r'.ren (idxIn L0 0)) r
  | [], [], _ => ⟨rfl, fun k id h => by simp at h⟩
  | [], _ :: _, h => by cases h
  | _ :: _, [], h => by cases h
  | x :: L, r :: H, ⟨h1, h2⟩ => by
    obtain ⟨i1, i2⟩ := leRows_spec h2
    refine ⟨by simp [i1], fun k id hk => ?_⟩
    cases k with
    | zero =>
      simp at hk
      subst hk
      split at h1
      · rename_i r' hr'; exact ⟨r', r, hr', rfl, h1⟩
      · cases h1
    | succ k => simpa using i2 k id (by simpa using hk)

theorem Row.ren_live (f : Nat → Option Nat) (r : Row) : (r.ren f).live = r.live := by cases r <;> rfl
theorem Row.ren_isMap (f : Nat → Option Nat) (r : Row) : (r.ren f).isMap = r.isMap := by cases r <;> rfl
theorem Row.ren_sz (f : Nat → Option Nat) (r : Row) : (r.ren f).sz = r.sz := by cases r <;> rfl
theorem Row.ren_elem (f : Nat → Option Nat) (r : Row) : (r.ren f).elem = r.elem := by cases r <;> rfl
theorem Row.ren_len (f : Nat → Option Nat) (r : Row) : (r.ren f).len = r.len := by cases r <;> simp [Row.ren, Row.len, AV.renL_map]
theorem Row.ren_cs (f : Nat → Option Nat) (r : Row) : (r.ren f).cs = AV.renL f r.cs := by
  cases r with
  | bytes e bs => simp [Row.ren, Row.cs, AV.renL_map, u8, AV.ren]
  | cells e sz cs => rfl
  | gone => rfl
  | map k es => rfl

theorem RowR_ren {f : Nat → Option Nat} {ρ ρ2 : Lay} {h h2 : Heap} {O : Nat → Prop} {w : World} (hf : RenOk f ρ h ρ2 h2) {id k : Nat} {r : Row} (hp : r.live = true → ρ2 k = ρ id)
    (hr : RowR ρ h O w id r) : RowR ρ2 h2 O w k (r.ren f) := by
  cases r with
  | gone => trivial
  | map kd es =>
    obtain ⟨ents, clock, h1, h2, h2', h3⟩ := hr
    refine ⟨ents, clock, by rw [hp rfl]; exact h1, by simpa [renE_map] using h2, by simpa [renE_map] using h2', fun j n a hj => ?_⟩
    rw [renE_map, List.getElem?_map] at hj
    obtain ⟨⟨n', a'⟩, hj', he⟩ := Option.map_eq_some_iff.1 hj
    simp only [Prod.mk.injEq] at he
    obtain ⟨rfl, rfl⟩ := he
    obtain ⟨e, g1, g2, g3⟩ := h3 j n' a' hj'
    exact ⟨e, g1, g2, VR_ren hf g3⟩
  | cells e sz cs =>
    obtain ⟨cur, h1, h2, h3⟩ := hr
    refine ⟨cur, by rw [hp rfl]; exact h1, by rw [hp rfl]; simpa [Row.ren, Row.len, AV.renL_map] using h2, fun j a hj => ?_⟩
    simp only [Row.ren, Row.cs] at hj
    rw [renL_getElem?] at hj
    obtain ⟨a', hj', rfl⟩ := Option.map_eq_some_iff.1 hj
    obtain ⟨v, g1, g2⟩ := h3 j a' hj'
    exact ⟨v, by rw [hp rfl]; exact g1, VR_ren hf g2⟩
  | bytes e bs =>
    obtain ⟨cur, h1, h2, h3⟩ := hr
    refine ⟨cur, by rw [hp rfl]; exact h1, by rw [hp rfl]; exact h2, fun j a hj => ?_⟩
    obtain ⟨v, g1, g2⟩ := h3 j a hj
    refine ⟨v, by rw [hp rfl]; exact g1, ?_⟩
    simp only [Row.ren, Row.cs, List.getElem?_map] at hj
    obtain ⟨b, hb, rfl⟩ := Option.map_eq_some_iff.1 hj
    have := VR_ren hf g2
    simpa [u8, AV.ren] using this

theorem RowR_le {ρ : Lay} {h : Heap} {O : Nat → Prop} {w : World} {id : Nat} {r r' : Row} (hle : RowLe r r') (hr : RowR ρ h O w id r) : RowR ρ h O w id r' := by
  obtain ⟨e1, e2, e3, e4, e5, e6, e7, e8⟩ := hle
  cases hl : r'.live with
  | false => cases r' <;> first | trivial | cases hl
  | true =>
    cases hm : r'.isMap with
    | false =>
      rw [rowR_cells hl hm]
      rw [rowR_cells (e1.trans hl) (e2.trans hm)] at hr
      obtain ⟨cur, h1, h2, h3⟩ := hr
      refine ⟨cur, by rw [← e3]; exact h1, by rw [Row.cs_length, ← e5, ← Row.cs_length]; exact h2, fun j a hj => ?_⟩
      have hlt : j < r.cs.length := by
        have := (List.getElem?_eq_some_iff.1 hj).1
        rw [Row.cs_length] at this ⊢
        omega
      obtain ⟨v, g1, g2⟩ := h3 j r.cs[j] (List.getElem?_eq_some_iff.2 ⟨hlt, rfl⟩)
      exact ⟨v, g1, e8 j _ a (List.getElem?_eq_some_iff.2 ⟨hlt, rfl⟩) hj _ _ _ _ _ g2⟩
    | true =>
      cases r' with
      | map k' es' =>
        cases r with
        | map k es =>
          simp only [Row.kind, Row.ents] at e6 e7
          subst e6; subst e7
          exact hr
        | gone => cases e2
        | cells => cases e2
        | bytes => cases e2
      | gone => cases hm
      | cells => cases hm
      | bytes => cases hm

theorem backRows_spec {L : List Nat} {fr : Nat} : ∀ (H : List Row) (b id : Nat) (r : Row), lookL (backRows L fr b H) id = some r →
    ∃ k r0, H[k]? = some r0 ∧ (backTo L fr (b + k)).getD 0 = id ∧ r = r0.ren (backTo L fr)
  | [], b, id, r, h => by simp [backRows, lookL] at h
  | x :: H, b, id, r, h => by
    simp only [backRows, lookL] at h
    cases hb : Nat.beq ((backTo L fr b).getD 0) id with
    | true =>
      simp only [hb, cond_true, Option.some.injEq] at h
      exact ⟨0, x, rfl, Nat.eq_of_beq_eq_true hb, h.symm⟩
    | false =>
      simp only [hb, cond_false] at h
      obtain ⟨k, r0, h1, h2, h3⟩ := backRows_spec H (b + 1) id r h
      exact ⟨k + 1, r0, by simpa using h1, by rw [← h2]; congr 2; omega, h3⟩

theorem backRows_some {L : List Nat} {fr : Nat} : ∀ (H : List Row) (b id k : Nat), k < H.length → (backTo L fr (b + k)).getD 0 = id → ∃ r, lookL (backRows L fr b H) id = some r
  | [], b, id, k, hk, he => by simp at hk
  | x :: H, b, id, k, hk, he => by
    simp only [backRows, lookL]
    cases hb : Nat.beq ((backTo L fr b).getD 0) id with
    | true => exact ⟨x.ren (backTo L fr), by simp⟩
    | false =>
      simp only [cond_false]
      cases k with
      | zero => rw [Nat.add_zero] at he; rw [he] at hb; simp at hb
      | succ k => exact backRows_some H (b + 1) id k (by simpa using hk) (by rw [← he]; congr 2; omega)

theorem backTo_lt {L : List Nat} {fr k id : Nat} (h : L[k]? = some id) : backTo L fr k = some id := by simp [backTo, nth_eq, h]
theorem backTo_ge {L : List Nat} {fr k : Nat} (h : L.length ≤ k) : backTo L fr k = some (fr + (k - L.length)) := by simp [backTo, nth_eq, List.getElem?_eq_none h]

section
variable {P : Program} {G : Env} {ρ : Lay} {h hr : Heap} {O : Nat → Prop} {w : World}

/-- The rows handed on, as the other side numbers them. -/
def layOf (ρ : Lay) (L : List Nat) : Lay := fun k => match L[k]? with | some id => ρ id | none => (0, 0)

theorem layOf_get {L : List Nat} {k id : Nat} (hk : L[k]? = some id) : layOf ρ L k = ρ id := by simp [layOf, hk]

structure SubOk (h : Heap) (L : List Nat) (H : List Row) : Prop where
  nodup : ∀ (i j : Nat) x, L[i]? = some x → L[j]? = some x → i = j
  live : ∀ id ∈ L, ∃ r, h id = some r ∧ r.live = true
  len : H.length = L.length
  le : ∀ (k id : Nat), L[k]? = some id → ∃ r' r, h id = some r' ∧ H[k]? = some r ∧ RowLe (r'.ren (idxIn L 0)) r

theorem SubOk.of {L : List Nat} {H : List Row} (hsub : ∀ id r, hr id = some r → h id = some r) (h1 : nodupB L = true) (h2 : allLive hr L = true) (h3 : leRows L hr L H) : SubOk h L H where
  nodup := nodupB_spec h1
  live := fun id hm => by obtain ⟨r, hr1, hr2⟩ := allLive_spec h2 id hm; exact ⟨r, hsub _ _ hr1, hr2⟩
  len := (leRows_spec h3).1
  le := fun k id hk => by obtain ⟨r', r, a, b, c⟩ := (leRows_spec h3).2 k id hk; exact ⟨r', r, hsub _ _ a, b, c⟩

theorem SubOk.get {L : List Nat} {H : List Row} (K : SubOk h L H) {k : Nat} {r : Row} (hk : H[k]? = some r) : ∃ id r', L[k]? = some id ∧ h id = some r' ∧ RowLe (r'.ren (idxIn L 0)) r ∧ r'.live = true := by
  have hlt : k < L.length := by rw [← K.len]; exact (List.getElem?_eq_some_iff.1 hk).1
  have hid : L[k]? = some L[k] := List.getElem?_eq_some_iff.2 ⟨hlt, rfl⟩
  obtain ⟨r', r2, a, b, c⟩ := K.le k _ hid
  rw [hk] at b
  cases b
  obtain ⟨r3, d, e⟩ := K.live _ (List.mem_of_getElem? hid)
  rw [a] at d
  cases d
  exact ⟨_, r', hid, a, c, e⟩

theorem SubOk.ren {L : List Nat} {H : List Row} (K : SubOk h L H) : RenOk (idxIn L 0) ρ h (layOf ρ L) (hL H) where
  ok := fun id k r hk hid => by
    obtain ⟨_, h2⟩ := idxIn_spec hk
    rw [Nat.sub_zero] at h2
    obtain ⟨r', r2, a, b, c⟩ := K.le k id h2
    rw [hid] at a
    cases a
    obtain ⟨e1, e2, e3, e4, e5, e6, e7, e8⟩ := c
    refine ⟨r2, by rw [hL_get]; exact b, fun hl => ⟨?_, layOf_get h2, ?_, ?_, ?_⟩⟩
    · rw [← Row.ren_live (idxIn L 0), e1]; exact hl
    · rw [← e2, Row.ren_isMap]
    · rw [← e4, Row.ren_sz]
    · rw [← e5, Row.ren_len]; exact Nat.le_refl _

theorem SubOk.sim {L : List Nat} {H : List Row} (K : SubOk h L H) (S : Sim G ρ h O w) : Sim G (layOf ρ L) (hL H) O w where
  rows := fun k r hk => by
    rw [hL_get] at hk
    obtain ⟨id, r', a, b, c, d⟩ := K.get hk
    exact RowR_le c (RowR_ren (K.ren (ρ := ρ)) (fun _ => layOf_get a) (S.rows id r' b))
  inj := fun i j ri rj hi hj hli hlj he => by
    rw [hL_get] at hi hj
    obtain ⟨id, r', a, b, c, d⟩ := K.get hi
    obtain ⟨id2, r2', a2, b2, c2, d2⟩ := K.get hj
    rw [layOf_get a, layOf_get a2] at he
    have := S.inj id id2 r' r2' b b2 d d2 he
    subst this
    exact K.nodup i j _ a a2
  notO := fun k r hk hl => by
    rw [hL_get] at hk
    obtain ⟨id, r', a, b, c, d⟩ := K.get hk
    rw [layOf_get a]
    exact S.notO id r' b d
  lt := S.lt
  glob := S.glob

/-- The layout afterwards, in the caller's numbers. -/
def layBack (ρ : Lay) (L : List Nat) (fr n : Nat) (ρ2 : Lay) : Lay := fun id =>
  match idxIn L 0 id with
  | some k => ρ2 k
  | none => if fr ≤ id ∧ id < fr + (n - L.length) then ρ2 (id - fr + L.length) else ρ id

theorem idxIn_get {L : List Nat} (hn : ∀ (i j : Nat) x, L[i]? = some x → L[j]? = some x → i = j) {k id : Nat} (hk : L[k]? = some id) : idxIn L 0 id = some k := by
  have hex : ∀ (l : List Nat) (b : Nat), id ∈ l → ∃ m, idxIn l b id = some m := by
    intro l
    induction l with
    | nil => intro b hm; cases hm
    | cons x l ih =>
      intro b hm
      unfold idxIn
      cases hb : Nat.beq x id with
      | true => exact ⟨b, by simp⟩
      | false =>
        simp only [cond_false]
        refine ih (b + 1) ?_
        rcases List.mem_cons.1 hm with e | hm
        · subst e; simp at hb
        · exact hm
  obtain ⟨m, hm⟩ := hex L 0 (List.mem_of_getElem? hk)
  obtain ⟨_, h2⟩ := idxIn_spec hm
  rw [Nat.sub_zero] at h2
  rw [hm, hn m k id h2 hk]

theorem idxIn_none {L : List Nat} {id : Nat} (hn : id ∉ L) : idxIn L 0 id = none := by
  cases hi : idxIn L 0 id with
  | none => rfl
  | some k => exact absurd (List.mem_of_getElem? (idxIn_spec hi).2) hn

theorem sub_back {L : List Nat} {H H' : List Row} {fr : Nat} {ρ2 : Lay} {O2 : Nat → Prop} {w2 : World} (K : SubOk h L H) (S : Sim G ρ h O w) (hlen : L.length ≤ H'.length)
    (hfr : ∀ i, fr ≤ i → i < fr + (H'.length - L.length) → h i = none) (S2 : Sim G ρ2 (hL H') O2 w2) (F : Fr (layOf ρ L) (hL H) O w ρ2 (hL H') O2 w2) :
    RenOk (backTo L fr) ρ2 (hL H') (layBack ρ L fr H'.length ρ2) (h.upd (backRows L fr 0 H')) ∧
    Sim G (layBack ρ L fr H'.length ρ2) (h.upd (backRows L fr 0 H')) O2 w2 ∧ Fr ρ h O w (layBack ρ L fr H'.length ρ2) (h.upd (backRows L fr 0 H')) O2 w2 := by
  have hnL : ∀ i, fr ≤ i → i < fr + (H'.length - L.length) → i ∉ L := fun i h1 h2 hm => by
    obtain ⟨r, hr, _⟩ := K.live i hm
    rw [hfr i h1 h2] at hr
    cases hr
  -- where a number comes from
  have hlay : ∀ k, k < H'.length → ∃ id, backTo L fr k = some id ∧ layBack ρ L fr H'.length ρ2 id = ρ2 k := fun k hk => by
    by_cases hk1 : k < L.length
    · have hid : L[k]? = some L[k] := List.getElem?_eq_some_iff.2 ⟨hk1, rfl⟩
      exact ⟨_, backTo_lt hid, by simp only [layBack, idxIn_get K.nodup hid]⟩
    · refine ⟨_, backTo_ge (by omega), ?_⟩
      simp only [layBack, idxIn_none (hnL (fr + (k - L.length)) (by omega) (by omega))]
      rw [if_pos ⟨by omega, by omega⟩]
      congr 1
      omega
  have hbinj : ∀ k1 k2 id, k1 < H'.length → k2 < H'.length → backTo L fr k1 = some id → backTo L fr k2 = some id → k1 = k2 := fun k1 k2 id hk1 hk2 e1 e2 => by
    by_cases c1 : k1 < L.length <;> by_cases c2 : k2 < L.length
    · have i1 : L[k1]? = some L[k1] := List.getElem?_eq_some_iff.2 ⟨c1, rfl⟩
      have i2 : L[k2]? = some L[k2] := List.getElem?_eq_some_iff.2 ⟨c2, rfl⟩
      rw [backTo_lt i1] at e1
      rw [backTo_lt i2] at e2
      exact K.nodup k1 k2 id (by rw [i1, e1]) (by rw [i2, e2])
    · have i1 : L[k1]? = some L[k1] := List.getElem?_eq_some_iff.2 ⟨c1, rfl⟩
      rw [backTo_lt i1] at e1
      rw [backTo_ge (by omega)] at e2
      simp only [Option.some.injEq] at e1 e2
      exact absurd (List.mem_of_getElem? i1) (by rw [e1, ← e2]; exact hnL _ (by omega) (by omega))
    · have i2 : L[k2]? = some L[k2] := List.getElem?_eq_some_iff.2 ⟨c2, rfl⟩
      rw [backTo_lt i2] at e2
      rw [backTo_ge (by omega)] at e1
      simp only [Option.some.injEq] at e1 e2
      exact absurd (List.mem_of_getElem? i2) (by rw [e2, ← e1]; exact hnL _ (by omega) (by omega))
    · rw [backTo_ge (by omega)] at e1 e2
      simp only [Option.some.injEq] at e1 e2
      omega
  have hget : ∀ k r id, H'[k]? = some r → backTo L fr k = some id → (h.upd (backRows L fr 0 H')) id = some (r.ren (backTo L fr)) := fun k r id hk hb => by
    have hlt := (List.getElem?_eq_some_iff.1 hk).1
    obtain ⟨r1, hr1⟩ := backRows_some (L := L) (fr := fr) H' 0 id k hlt (by rw [Nat.zero_add, hb]; rfl)
    obtain ⟨k2, r0, g1, g2, g3⟩ := backRows_spec H' 0 id r1 hr1
    rw [Nat.zero_add] at g2
    have hlt2 := (List.getElem?_eq_some_iff.1 g1).1
    obtain ⟨id2, j1, _⟩ := hlay k2 hlt2
    rw [j1] at g2
    simp at g2
    subst g2
    have := hbinj k k2 id2 hlt hlt2 hb j1
    subst this
    rw [hk] at g1
    cases g1
    simp only [Heap.upd, hr1, g3]
  -- which rows there are
  have hcase : ∀ id r, (h.upd (backRows L fr 0 H')) id = some r → (∃ k r0, H'[k]? = some r0 ∧ backTo L fr k = some id ∧ r = r0.ren (backTo L fr) ∧ layBack ρ L fr H'.length ρ2 id = ρ2 k) ∨
      (h id = some r ∧ id ∉ L ∧ layBack ρ L fr H'.length ρ2 id = ρ id) := fun id r hr => by
    cases hl : lookL (backRows L fr 0 H') id with
    | some r1 =>
      simp only [Heap.upd, hl, Option.some.injEq] at hr
      subst hr
      obtain ⟨k, r0, g1, g2, g3⟩ := backRows_spec H' 0 id r1 hl
      rw [Nat.zero_add] at g2
      obtain ⟨id2, j1, j2⟩ := hlay k (List.getElem?_eq_some_iff.1 g1).1
      rw [j1] at g2
      simp at g2
      subst g2
      exact .inl ⟨k, r0, g1, j1, g3, j2⟩
    | none =>
      simp only [Heap.upd, hl] at hr
      have hno : id ∉ L := fun hm => by
        obtain ⟨k, hk, he⟩ := List.getElem_of_mem hm
        have : L[k]? = some id := by rw [List.getElem?_eq_some_iff]; exact ⟨hk, he⟩
        obtain ⟨r1, hr1⟩ := backRows_some (L := L) (fr := fr) H' 0 id k (by omega) (by rw [Nat.zero_add, backTo_lt this]; rfl)
        rw [hl] at hr1
        cases hr1
      refine .inr ⟨hr, hno, ?_⟩
      simp only [layBack, idxIn_none hno]
      rw [if_neg]
      rintro ⟨a, b⟩
      rw [hfr id a b] at hr
      cases hr
  have hsubrow : ∀ id ∈ L, ∀ r, h id = some r → r.live = true → ∃ k rk, (hL H) k = some rk ∧ L[k]? = some id ∧ layOf ρ L k = ρ id ∧ RowLe (r.ren (idxIn L 0)) rk := fun id hm r hr hl => by
    obtain ⟨k, hk, he⟩ := List.getElem_of_mem hm
    have hid : L[k]? = some id := by rw [List.getElem?_eq_some_iff]; exact ⟨hk, he⟩
    obtain ⟨r', r2, a, b, c⟩ := K.le k id hid
    rw [hr] at a
    cases a
    exact ⟨k, r2, by rw [hL_get]; exact b, hid, layOf_get hid, c⟩
  have hkeep : ∀ b, b < w.heap.size → (∀ id ∈ L, ∀ r, h id = some r → (ρ id).1 ≠ b) → w2.heap[b]? = w.heap[b]? := fun b hb hn => F.keep b hb fun k rk hk hlk he => by
    rw [hL_get] at hk
    obtain ⟨id, r', a, b', c, d⟩ := K.get hk
    rw [layOf_get a] at he
    exact hn id (List.mem_of_getElem? a) r' b' he
  have hother : ∀ id r, h id = some r → r.live = true → id ∉ L → w2.heap[(ρ id).1]? = w.heap[(ρ id).1]? := fun id r hr hl hno => hkeep _ (S.block_lt hr hl) fun id2 hm2 r2 hr2 he => by
    obtain ⟨r3, hr3, hl3⟩ := K.live id2 hm2
    rw [hr2] at hr3
    cases hr3
    have := S.inj id2 id r2 r hr2 hr hl3 hl he
    subst this
    exact hno hm2
  have FF : Fr ρ h O w (layBack ρ L fr H'.length ρ2) (h.upd (backRows L fr 0 H')) O2 w2 :=
    { os := F.os, tape := F.tape, output := F.output, size := F.size
      keep := fun b hb hn => hkeep b hb fun id hm r hr he => by
        obtain ⟨r3, hr3, hl3⟩ := K.live id hm
        exact hn id r3 hr3 hl3 he
      dom := fun id r hr => by
        by_cases hm : id ∈ L
        · obtain ⟨r3, hr3, hl3⟩ := K.live id hm
          rw [hr] at hr3
          cases hr3
          obtain ⟨k, rk, hk, hid, hla, hle⟩ := hsubrow id hm r hr hl3
          obtain ⟨r2, hr2, hx⟩ := F.dom k rk hk
          rw [hL_get] at hr2
          refine ⟨_, hget k r2 id hr2 (backTo_lt hid), fun hl => ?_⟩
          rw [Row.ren_live] at hl
          obtain ⟨_, a1, a2, a3, a4, a5⟩ := hx hl
          obtain ⟨e1, e2, e3, e4, e5, e6, e7, e8⟩ := hle
          refine ⟨hl3, ?_, ?_, ?_, ?_, ?_⟩
          · simp only [layBack, idxIn_get K.nodup hid]; rw [a1, hla]
          · rw [Row.ren_isMap, a2, ← e2, Row.ren_isMap]
          · rw [Row.ren_sz, a3, ← e4, Row.ren_sz]
          · rw [Row.ren_len]; rw [← e5, Row.ren_len] at a4; exact a4
          · rw [hla] at a5; exact a5
        · have hno : lookL (backRows L fr 0 H') id = none := by
            cases hl : lookL (backRows L fr 0 H') id with
            | none => rfl
            | some r1 =>
              obtain ⟨k, r0, g1, g2, g3⟩ := backRows_spec H' 0 id r1 hl
              rw [Nat.zero_add] at g2
              have hlt := (List.getElem?_eq_some_iff.1 g1).1
              by_cases hk1 : k < L.length
              · have hid : L[k]? = some L[k] := List.getElem?_eq_some_iff.2 ⟨hk1, rfl⟩
                rw [backTo_lt hid] at g2
                simp at g2
                exact absurd (List.mem_of_getElem? hid) (by rw [g2]; exact hm)
              · rw [backTo_ge (by omega)] at g2
                simp at g2
                rw [← g2, hfr _ (by omega) (by omega)] at hr
                cases hr
          have hup : (h.upd (backRows L fr 0 H')) id = some r := by simp only [Heap.upd, hno]; exact hr
          refine ⟨r, hup, fun hl => ⟨hl, ?_, rfl, rfl, Nat.le_refl _, by simp only [blockSize, hother id r hr hl hm]⟩⟩
          rcases hcase id r hup with ⟨k, r0, g1, g2, g3, g4⟩ | ⟨_, _, g3⟩
          · exfalso
            have hlt := (List.getElem?_eq_some_iff.1 g1).1
            by_cases hk1 : k < L.length
            · have hid : L[k]? = some L[k] := List.getElem?_eq_some_iff.2 ⟨hk1, rfl⟩
              rw [backTo_lt hid] at g2
              simp at g2
              exact absurd (List.mem_of_getElem? hid) (by rw [g2]; exact hm)
            · rw [backTo_ge (by omega)] at g2
              simp at g2
              rw [← g2, hfr _ (by omega) (by omega)] at hr
              cases hr
          · exact g3
      own := fun id r hr hl => by
        rcases hcase id r hr with ⟨k, r0, g1, g2, g3, g4⟩ | ⟨g1, g2, g3⟩
        · rw [g4]
          subst g3
          rw [Row.ren_live] at hl
          rcases F.own k r0 (by rw [hL_get]; exact g1) hl with ⟨i, ri, hi, hli, he⟩ | hge
          · rw [hL_get] at hi
            obtain ⟨id', r', a, b, c, d⟩ := K.get hi
            rw [layOf_get a] at he
            exact .inl ⟨id', r', b, d, he⟩
          · exact .inr hge
        · rw [g3]; exact .inl ⟨id, r, g1, hl, rfl⟩
      old := F.old
      oldnew := fun b hb => by
        rcases F.oldnew b hb with h1 | ⟨i, ri, hi, hli, he⟩ | hge
        · exact .inl h1
        · rw [hL_get] at hi
          obtain ⟨id', r', a, b', c, d⟩ := K.get hi
          rw [layOf_get a] at he
          exact .inr (.inl ⟨id', r', b', d, he⟩)
        · exact .inr (.inr hge) }
  have R : RenOk (backTo L fr) ρ2 (hL H') (layBack ρ L fr H'.length ρ2) (h.upd (backRows L fr 0 H')) :=
    ⟨fun k id r hb hk => by
      rw [hL_get] at hk
      have hlt := (List.getElem?_eq_some_iff.1 hk).1
      obtain ⟨id2, j1, j2⟩ := hlay k hlt
      rw [hb] at j1
      cases j1
      refine ⟨_, hget k r id hk hb, fun hl => ?_⟩
      rw [Row.ren_live] at hl
      exact ⟨hl, j2, Row.ren_isMap _ _, Row.ren_sz _ _, by rw [Row.ren_len]; exact Nat.le_refl _⟩⟩
  refine ⟨R, S.step FF (fun id r hr hl => ?_) (fun i j ri rj hi hj hli hlj he => ?_) (fun id r hr hl hO => ?_) S2.lt, FF⟩
  · rcases hcase id r hr with ⟨k, r0, g1, g2, g3, g4⟩ | ⟨g1, g2, g3⟩
    · subst g3
      exact .inr (RowR_ren R (fun _ => g4) (S2.rows k r0 (by rw [hL_get]; exact g1)))
    · exact .inl ⟨g1, g3, hother id r g1 hl g2⟩
  · rcases hcase i ri hi with ⟨k, r0, g1, g2, g3, g4⟩ | ⟨g1, g2, g3⟩ <;> rcases hcase j rj hj with ⟨k', r0', g1', g2', g3', g4'⟩ | ⟨g1', g2', g3'⟩
    · subst g3; subst g3'
      rw [Row.ren_live] at hli hlj
      rw [g4, g4'] at he
      have := S2.inj k k' r0 r0' (by rw [hL_get]; exact g1) (by rw [hL_get]; exact g1') hli hlj he
      subst this
      rw [g2] at g2'
      cases g2'
      rfl
    · exfalso
      subst g3
      rw [Row.ren_live] at hli
      rw [g4, g3'] at he
      rcases F.own k r0 (by rw [hL_get]; exact g1) hli with ⟨q, rq, hq, hlq, heq⟩ | hge
      · rw [hL_get] at hq
        obtain ⟨id', r', a, b, c, d⟩ := K.get hq
        rw [layOf_get a] at heq
        have := S.inj id' j r' rj b g1' d hlj (heq.trans he)
        subst this
        exact g2' (List.mem_of_getElem? a)
      · have := S.block_lt g1' hlj
        omega
    · exfalso
      subst g3'
      rw [Row.ren_live] at hlj
      rw [g3, g4'] at he
      rcases F.own k' r0' (by rw [hL_get]; exact g1') hlj with ⟨q, rq, hq, hlq, heq⟩ | hge
      · rw [hL_get] at hq
        obtain ⟨id', r', a, b, c, d⟩ := K.get hq
        rw [layOf_get a] at heq
        have := S.inj id' i r' ri b g1 d hli (heq.trans he.symm)
        subst this
        exact g2 (List.mem_of_getElem? a)
      · have := S.block_lt g1 hli
        omega
    · rw [g3, g3'] at he
      exact S.inj i j ri rj g1 g1' hli hlj he
  · rcases hcase id r hr with ⟨k, r0, g1, g2, g3, g4⟩ | ⟨g1, g2, g3⟩
    · subst g3
      rw [Row.ren_live] at hl
      rw [g4] at hO
      exact S2.notO k r0 (by rw [hL_get]; exact g1) hl hO
    · rw [g3] at hO
      rcases F.oldnew _ hO with h1 | ⟨i, ri, hi, hli, he⟩ | hge
      · exact S.notO id r g1 hl h1
      · rw [hL_get] at hi
        obtain ⟨id', r', a, b', c, d⟩ := K.get hi
        rw [layOf_get a] at he
        have := S.inj id' id r' r b' g1 d hl he
        subst this
        exact g2 (List.mem_of_getElem? a)
      · have := S.block_lt g1 hl
        omega

theorem leAll_spec : ∀ {as bs : List AV}, leAll as bs → as.length = bs.length ∧ ∀ (j : Nat) a b, as[j]? = some a → bs[j]? = some b → Le a b
  | [], [], _ => ⟨rfl, fun j a b h => by simp at h⟩
  | [], _ :: _, h => by cases h
  | _ :: _, [], h => by cases h
  | x :: as, y :: bs, ⟨h1, h2⟩ => by
    obtain ⟨i1, i2⟩ := leAll_spec h2
    refine ⟨by simp [i1], fun j a b ha hb => ?_⟩
    cases j with
    | zero => simp at ha hb; subst ha; subst hb; exact h1
    | succ j => exact i2 j a b (by simpa using ha) (by simpa using hb)

theorem call_sound {g : FuncId} {as : List AV} {vals : List Value} {fr : Nat} {L : List Nat} {args : List AV} {H : List Row} {ret : AV} {H' : List Row} {v : AV} {us : List (Nat × Row)} {c : List Prop}
    (S : Sim G ρ h O w) (hsub : ∀ id r, hr id = some r → h id = some r) (hfr : ∀ i, fr ≤ i → i < fr + 64 → h i = none) (hlen : vals.length = as.length)
    (hv : ∀ (j : Nat) a x, as[j]? = some a → vals[j]? = some x → VR ρ h O w a x) (he : callE P G g as hr fr L args H ret H' = some (v, us, c)) (hC : AllP c) :
    (∃ fn, P.funcs[g]? = some fn ∧ (fn.name == "runtime.NumGoroutine") = false ∧ fn.body.isNone = false) ∧
    Calls P g vals.toArray w fun e w' => ∃ x, e = .returned x ∧ Post G ρ h O w v us x w' := by
  unfold callE at he
  cases hb : (nodupB L && allLive hr L && Nat.ble H'.length (L.length + 60) && Nat.ble L.length H'.length) with
  | false => simp [hb] at he
  | true =>
    simp only [hb, cond_true, Option.some.injEq, Prod.mk.injEq] at he
    obtain ⟨rfl, rfl, rfl⟩ := he
    simp only [Bool.and_eq_true] at hb
    obtain ⟨⟨⟨b1, b2⟩, b3⟩, b4⟩ := hb
    have b3' := Nat.le_of_ble_eq_true b3
    have b4' := Nat.le_of_ble_eq_true b4
    obtain ⟨c1, c2, c3, _⟩ := hC
    have K := SubOk.of hsub b1 b2 c3
    obtain ⟨l1, l2⟩ := leAll_spec c2
    refine ⟨c1.1, ?_⟩
    refine (c1.2 O (layOf ρ L) w vals (K.sim S) (by rw [hlen, ← l1]; simp) (fun j a x ha hx => ?_)).mono fun e w' hp => ?_
    · have hlt : j < (as.map (AV.ren (idxIn L 0))).length := by rw [l1]; exact (List.getElem?_eq_some_iff.1 ha).1
      have hlt' : j < as.length := by simpa using hlt
      have h0 : as[j]? = some as[j] := List.getElem?_eq_some_iff.2 ⟨hlt', rfl⟩
      exact l2 j _ a (by rw [List.getElem?_map, h0]; rfl) ha _ _ _ _ _ (VR_ren K.ren (hv j _ x h0 hx))
    · obtain ⟨x, ρ2, O2, rfl, p1, p2, p3⟩ := hp
      obtain ⟨q1, q2, q3⟩ := sub_back K S b4' (fun i i1 i2 => hfr i i1 (by omega)) p2 p3
      exact ⟨x, rfl, _, O2, VR_ren q1 p1, q2, q3⟩

end
end Go.Ax
