/-
  An abstract machine for Go functions (part 4): what stays true of the readings while the world goes on.
-/
import Derived.Test.YtdfefemnlimeeaaDoorAx3
set_option linter.unusedVariables false
set_option linter.unusedSimpArgs false
namespace Go.Ax

theorem cell?_heap {w w' : World} {a : Addr} (h : w'.heap[a.block]? = w.heap[a.block]?) : w'.cell? a = w.cell? a := by simp [World.cell?, h]

theorem DR_mono {O O' : Nat → Prop} {w w' : World} (hO : ∀ b, O b → O' b) (hk : ∀ b, O b → w'.heap[b]? = w.heap[b]?) {a : AV} {v : Value} (h : DR O w a v) : DR O' w' a v := by
  induction h with
  | dead v => exact .dead v
  | lit v => exact .lit v
  | @bts bs a cap h1 h2 h3 hc h4 =>
    refine .bts h1 (fun hp => hO _ (h2 hp)) h3 hc fun i b hb => ?_
    have hlt : i < bs.length := (List.getElem?_eq_some_iff.1 hb).1
    rw [cell?_heap (w := w) (by rw [show (a.add i).block = a.block by unfold Addr.add; split <;> rfl]; exact hk _ (h2 (by omega)))]
    exact h4 i b hb
  | btsnil => exact .btsnil
  | @ro sz n get a cap val h1 h2 h3 hc h4 h5 h6 ih =>
    refine .ro val h1 (fun hp => hO _ (h2 hp)) h3 hc h4 (fun i j c hi hc => ?_) ih
    rw [cell?_heap (w := w) (by rw [show (a.add (i * sz + j)).block = a.block by unfold Addr.add; split <;> rfl]; exact hk _ (h2 (by omega)))]
    exact h5 i j c hi hc
  | ronil => exact .ronil
  | @rp cs off b o val h1 h2 h3 ih =>
    refine .rp val (hO _ h1) (fun j c hc => ?_) ih
    rw [cell?_heap (w := w) (hk _ h1)]
    exact h2 j c hc
  | agg h1 h2 ih => exact .agg h1 ih
  | ifc h ih => exact .ifc ih
  | opt h h' ih => exact .opt ih h'
  | clo h1 h2 h3 h4 ih1 ih2 => exact .clo h1 h2 ih1 ih2

theorem Sim.oldKept {G : Env} {ρ ρ' : Lay} {h h' : Heap} {O O' : Nat → Prop} {w w' : World} (S : Sim G ρ h O w) (F : Fr ρ h O w ρ' h' O' w') :
    ∀ b, O b → w'.heap[b]? = w.heap[b]? := fun b hb =>
  F.keep b (S.lt b hb) fun id r hr hl e => S.notO id r hr hl (e ▸ hb)

theorem VR_mono {G : Env} {ρ ρ' : Lay} {h h' : Heap} {O O' : Nat → Prop} {w w' : World} (S : Sim G ρ h O w) (F : Fr ρ h O w ρ' h' O' w')
    {a : AV} {v : Value} (hv : VR ρ h O w a v) : VR ρ' h' O' w' a v := by
  induction hv with
  | dr hd => exact .dr (DR_mono F.old (S.oldKept F) hd)
  | @own id off len cap r a c m h1 h2 h3 h4 h5 h6 h7 h8 h8' h9 h10 h11 =>
    obtain ⟨r', hr', hx⟩ := F.dom id r h1
    by_cases hl : r'.live = true
    · obtain ⟨_, e1, e2, e3, e4, e5⟩ := hx hl
      refine .own (r := r') (c := c) (m := m) hr' hl (by rw [e2]; exact h3) (by rw [e3]; omega) h5 (by rw [e1]; exact h6) (by rw [e1]; exact h7) h8 h8' (by rw [e1, e5]; exact h9) (by rw [e3]; exact h10) h11
    · exact .ownGone hr' (by simpa using hl)
  | @ownGone id off len cap r a l c h1 h2 =>
    obtain ⟨r', hr', hx⟩ := F.dom id r h1
    refine .ownGone hr' ?_
    cases hl : r'.live with
    | false => rfl
    | true => rw [(hx hl).1] at h2; cases h2
  | @ptr id off r h1 h2 h3 =>
    obtain ⟨r', hr', hx⟩ := F.dom id r h1
    by_cases hl : r'.live = true
    · obtain ⟨_, e1, e2, e3, e4, e5⟩ := hx hl
      rw [← e1]
      exact .ptr hr' hl (by rw [e2]; exact h3)
    · exact .ptrGone hr' (by simpa using hl)
  | @ptrGone id off r a h1 h2 =>
    obtain ⟨r', hr', hx⟩ := F.dom id r h1
    refine .ptrGone hr' ?_
    cases hl : r'.live with
    | false => rfl
    | true => rw [(hx hl).1] at h2; cases h2
  | @mp id r h1 h2 =>
    obtain ⟨r', hr', hx⟩ := F.dom id r h1
    by_cases hl : r'.live = true
    · obtain ⟨_, e1, e2, e3, e4, e5⟩ := hx hl
      rw [← e1]
      exact .mp hr' (by rw [e2]; exact h2)
    · exact .mpGone hr' (by simpa using hl)
  | @mpGone id r a h1 h2 =>
    obtain ⟨r', hr', hx⟩ := F.dom id r h1
    refine .mpGone hr' ?_
    cases hl : r'.live with
    | false => rfl
    | true => rw [(hx hl).1] at h2; cases h2
  | agg h1 h2 ih => exact .agg h1 ih
  | tup h1 h2 ih => exact .tup h1 ih
  | ifc h ih => exact .ifc ih
  | opt h h' ih => exact .opt ih h'
  | clo h1 h2 h3 h4 ih1 ih2 => exact .clo h1 h2 ih1 ih2

theorem Fr.refl (ρ : Lay) (h : Heap) (O : Nat → Prop) (w : World) : Fr ρ h O w ρ h O w where
  os := rfl
  tape := rfl
  output := rfl
  size := Nat.le_refl _
  keep := fun _ _ _ => rfl
  dom := fun id r hr => ⟨r, hr, fun hl => ⟨hl, rfl, rfl, rfl, Nat.le_refl _, rfl⟩⟩
  own := fun id r hr hl => .inl ⟨id, r, hr, hl, rfl⟩
  old := fun _ h => h
  oldnew := fun _ h => .inl h

theorem Fr.trans {ρ ρ1 ρ2 : Lay} {h h1 h2 : Heap} {O O1 O2 : Nat → Prop} {w w1 w2 : World} (F : Fr ρ h O w ρ1 h1 O1 w1) (F' : Fr ρ1 h1 O1 w1 ρ2 h2 O2 w2) : Fr ρ h O w ρ2 h2 O2 w2 where
  os := F'.os.trans F.os
  tape := F'.tape.trans F.tape
  output := F'.output.trans F.output
  size := Nat.le_trans F.size F'.size
  keep := fun b hb hn => by
    refine (F'.keep b (Nat.lt_of_lt_of_le hb F.size) fun id r hr hl e => ?_).trans (F.keep b hb hn)
    rcases F.own id r hr hl with ⟨i, ri, hi, hli, he⟩ | hge
    · exact hn i ri hi hli (he.trans e)
    · omega
  dom := fun id r hr => by
    obtain ⟨r1, hr1, hx1⟩ := F.dom id r hr
    obtain ⟨r2, hr2, hx2⟩ := F'.dom id r1 hr1
    refine ⟨r2, hr2, fun hl => ?_⟩
    obtain ⟨l1, a1, a2, a3, a4, a5⟩ := hx2 hl
    obtain ⟨l0, b1, b2, b3, b4, b5⟩ := hx1 l1
    refine ⟨l0, a1.trans b1, a2.trans b2, a3.trans b3, Nat.le_trans b4 a4, ?_⟩
    rw [b1] at a5
    exact a5.trans b5
  own := fun id r hr hl => by
    rcases F'.own id r hr hl with ⟨i, ri, hi, hli, he⟩ | hge
    · rcases F.own i ri hi hli with ⟨k, rk, hk, hlk, hek⟩ | hge
      · exact .inl ⟨k, rk, hk, hlk, hek.trans he⟩
      · exact .inr (he ▸ hge)
    · exact .inr (Nat.le_trans F.size hge)
  old := fun b hb => F'.old b (F.old b hb)
  oldnew := fun b hb => by
    rcases F'.oldnew b hb with hb | ⟨i, ri, hi, hli, he⟩ | hge
    · exact F.oldnew b hb
    · rcases F.own i ri hi hli with ⟨k, rk, hk, hlk, hek⟩ | hge
      · exact .inr (.inl ⟨k, rk, hk, hlk, hek.trans he⟩)
      · exact .inr (.inr (he ▸ hge))
    · exact .inr (.inr (Nat.le_trans F.size hge))

/-- What a row of cells says. -/
def CellsR (ρ : Lay) (h : Heap) (O : Nat → Prop) (w : World) (b o : Nat) (e : TypeId) (cs : List AV) : Prop :=
  ∃ cur, w.heap[b]? = some (.cells cur e (0, 0)) ∧ o + cs.length ≤ cur.size ∧ ∀ (j : Nat) (a : AV), cs[j]? = some a → ∃ v, cur[o + j]? = some v ∧ VR ρ h O w a v

theorem rowR_cells {ρ : Lay} {h : Heap} {O : Nat → Prop} {w : World} {id : Nat} {r : Row} (hl : r.live = true) (hm : r.isMap = false) :
    RowR ρ h O w id r ↔ CellsR ρ h O w (ρ id).1 (ρ id).2 r.elem r.cs := by
  cases r with
  | gone => cases hl
  | map k es => cases hm
  | cells e sz cs => exact Iff.rfl
  | bytes e bs => simp only [RowR, CellsR, Row.cs_length]

theorem RowR_mono {G : Env} {ρ ρ' : Lay} {h h' : Heap} {O O' : Nat → Prop} {w w' : World} (S : Sim G ρ h O w) (F : Fr ρ h O w ρ' h' O' w')
    {id : Nat} {r : Row} (hp : ρ' id = ρ id) (hb : w'.heap[(ρ id).1]? = w.heap[(ρ id).1]?) (hr : RowR ρ h O w id r) : RowR ρ' h' O' w' id r := by
  cases r with
  | gone => trivial
  | map k es =>
    obtain ⟨ents, clock, h1, h2, h2', h3⟩ := hr
    refine ⟨ents, clock, by rw [hp, hb]; exact h1, h2, h2', fun j n a hj => ?_⟩
    obtain ⟨e, he, hk, hv⟩ := h3 j n a hj
    exact ⟨e, he, hk, VR_mono S F hv⟩
  | cells e sz cs =>
    obtain ⟨cur, h1, h2, h3⟩ := hr
    refine ⟨cur, by rw [hp, hb]; exact h1, by rw [hp]; exact h2, fun j a hj => ?_⟩
    obtain ⟨v, hv, hR⟩ := h3 j a hj
    exact ⟨v, by rw [hp]; exact hv, VR_mono S F hR⟩
  | bytes e bs =>
    obtain ⟨cur, h1, h2, h3⟩ := hr
    refine ⟨cur, by rw [hp, hb]; exact h1, by rw [hp]; exact h2, fun j a hj => ?_⟩
    obtain ⟨v, hv, hR⟩ := h3 j a hj
    exact ⟨v, by rw [hp]; exact hv, VR_mono S F hR⟩

theorem Sim.step {G : Env} {ρ ρ' : Lay} {h h' : Heap} {O O' : Nat → Prop} {w w' : World} (S : Sim G ρ h O w) (F : Fr ρ h O w ρ' h' O' w')
    (hrow : ∀ id r, h' id = some r → r.live = true → (h id = some r ∧ ρ' id = ρ id ∧ w'.heap[(ρ id).1]? = w.heap[(ρ id).1]?) ∨ RowR ρ' h' O' w' id r)
    (hinj : ∀ i j ri rj, h' i = some ri → h' j = some rj → ri.live = true → rj.live = true → (ρ' i).1 = (ρ' j).1 → i = j)
    (hno : ∀ id r, h' id = some r → r.live = true → ¬ O' (ρ' id).1) (hlt : ∀ b, O' b → b < w'.heap.size) : Sim G ρ' h' O' w' where
  rows := fun id r hr => by
    cases hl : r.live with
    | false => cases r <;> first | trivial | cases hl
    | true =>
      rcases hrow id r hr hl with ⟨h1, h2, h3⟩ | hR
      · exact RowR_mono S F h2 h3 (S.rows id r h1)
      · exact hR
  inj := hinj
  notO := hno
  lt := hlt
  glob := fun g cs hg => by
    obtain ⟨h1, h2⟩ := S.glob g cs hg
    refine ⟨F.old g h1, fun j c hc => ?_⟩
    obtain ⟨v, hv, hd⟩ := h2 j c hc
    exact ⟨v, by rw [cell?_heap (w := w) (S.oldKept F g h1)]; exact hv, DR_mono F.old (S.oldKept F) hd⟩

/-! ### The kinds of steps -/

/-- The world's memory is as it was. -/
theorem Fr.same {ρ : Lay} {h : Heap} {O : Nat → Prop} {w w' : World} (hh : w'.heap = w.heap) (ho : w'.os = w.os) (ht : w'.tape = w.tape) (hp : w'.output = w.output) : Fr ρ h O w ρ h O w' where
  os := ho
  tape := ht
  output := hp
  size := by rw [hh]; exact Nat.le_refl _
  keep := fun b _ _ => by rw [hh]
  dom := fun id r hr => ⟨r, hr, fun hl => ⟨hl, rfl, rfl, rfl, Nat.le_refl _, by simp only [blockSize, hh]⟩⟩
  own := fun id r hr hl => .inl ⟨id, r, hr, hl, rfl⟩
  old := fun _ h => h
  oldnew := fun _ h => .inl h

theorem Sim.same {G : Env} {ρ : Lay} {h : Heap} {O : Nat → Prop} {w w' : World} (S : Sim G ρ h O w) (hh : w'.heap = w.heap) (ho : w'.os = w.os) (ht : w'.tape = w.tape) (hp : w'.output = w.output) : Sim G ρ h O w' :=
  S.step (Fr.same hh ho ht hp) (fun id r hr _ => .inl ⟨hr, rfl, by rw [hh]⟩) S.inj S.notO (fun b hb => by rw [hh]; exact S.lt b hb)

theorem upd_nil (h : Heap) : h.upd [] = h := rfl

theorem upd_one_same (h : Heap) (id : Nat) (r : Row) : h.upd [(id, r)] id = some r := by simp [Heap.upd, lookL]
theorem upd_one_ne (h : Heap) {id j : Nat} (r : Row) (hne : j ≠ id) : h.upd [(id, r)] j = h j := by
  have : Nat.beq id j = false := by cases hb : Nat.beq id j with
    | false => rfl
    | true => exact absurd (Nat.eq_of_beq_eq_true hb).symm hne
  simp [Heap.upd, lookL, this]

def setLay (ρ : Lay) (id : Nat) (x : Nat × Nat) : Lay := fun j => if j = id then x else ρ j
theorem setLay_same (ρ : Lay) (id : Nat) (x : Nat × Nat) : setLay ρ id x id = x := by simp [setLay]
theorem setLay_ne (ρ : Lay) {id j : Nat} (x : Nat × Nat) (h : j ≠ id) : setLay ρ id x j = ρ j := by simp [setLay, h]

/-- A new row in a new block. -/
theorem step_new {G : Env} {ρ : Lay} {h : Heap} {O : Nat → Prop} {w w' : World} {id : Nat} {r : Row} {o : Obj} (S : Sim G ρ h O w) (hfr : h id = none) (hl : r.live = true)
    (hh : w'.heap = w.heap.push o) (ho : w'.os = w.os) (ht : w'.tape = w.tape) (hp : w'.output = w.output)
    (hR : ∀ F : Fr ρ h O w (setLay ρ id (w.heap.size, 0)) (h.upd [(id, r)]) O w', RowR (setLay ρ id (w.heap.size, 0)) (h.upd [(id, r)]) O w' id r) :
    Sim G (setLay ρ id (w.heap.size, 0)) (h.upd [(id, r)]) O w' ∧ Fr ρ h O w (setLay ρ id (w.heap.size, 0)) (h.upd [(id, r)]) O w' := by
  have hne : ∀ j rj, h j = some rj → j ≠ id := fun j rj hj e => by rw [e, hfr] at hj; cases hj
  have hold : ∀ b, b < w.heap.size → w'.heap[b]? = w.heap[b]? := fun b hb => by rw [hh, Array.getElem?_push, if_neg (by omega)]
  have hblk : ∀ j rj, h j = some rj → rj.live = true → (ρ j).1 < w.heap.size := fun j rj hj hlj => by
    have := S.rows j rj hj
    cases rj with
    | gone => cases hlj
    | map k es => obtain ⟨ents, clock, h1, _⟩ := this; exact (Array.getElem?_eq_some_iff.1 h1).1
    | cells e sz cs => obtain ⟨cur, h1, _⟩ := this; exact (Array.getElem?_eq_some_iff.1 h1).1
    | bytes e bs => obtain ⟨cur, h1, _⟩ := this; exact (Array.getElem?_eq_some_iff.1 h1).1
  have F : Fr ρ h O w (setLay ρ id (w.heap.size, 0)) (h.upd [(id, r)]) O w' :=
    { os := ho, tape := ht, output := hp
      size := by rw [hh]; simp
      keep := fun b hb _ => hold b hb
      dom := fun j rj hj => ⟨rj, by rw [upd_one_ne h r (hne j rj hj)]; exact hj, fun hlj => ⟨hlj, setLay_ne ρ _ (hne j rj hj), rfl, rfl, Nat.le_refl _, by simp only [blockSize, hold _ (hblk j rj hj hlj)]⟩⟩
      own := fun j rj hj hlj => by
        by_cases e : j = id
        · subst e; rw [setLay_same]; exact .inr (Nat.le_refl _)
        · rw [upd_one_ne h r e] at hj
          exact .inl ⟨j, rj, hj, hlj, by rw [setLay_ne ρ _ e]⟩
      old := fun _ h => h
      oldnew := fun _ h => .inl h }
  refine ⟨S.step F (fun j rj hj hlj => ?_) (fun i j ri rj hi hj hli hlj he => ?_) (fun j rj hj hlj hO => ?_) (fun b hb => by rw [hh]; simp; have := S.lt b hb; omega), F⟩
  · by_cases e : j = id
    · subst e
      rw [upd_one_same] at hj
      cases hj
      exact .inr (hR F)
    · rw [upd_one_ne h r e] at hj
      exact .inl ⟨hj, setLay_ne ρ _ e, hold _ (hblk j rj hj hlj)⟩
  · by_cases ei : i = id <;> by_cases ej : j = id
    · rw [ei, ej]
    · subst ei
      rw [upd_one_ne h r ej] at hj
      rw [setLay_same, setLay_ne ρ _ ej] at he
      have := hblk j rj hj hlj
      simp at he
      omega
    · subst ej
      rw [upd_one_ne h r ei] at hi
      rw [setLay_same, setLay_ne ρ _ ei] at he
      have := hblk i ri hi hli
      simp at he
      omega
    · rw [upd_one_ne h r ei] at hi
      rw [upd_one_ne h r ej] at hj
      rw [setLay_ne ρ _ ei, setLay_ne ρ _ ej] at he
      exact S.inj i j ri rj hi hj hli hlj he
  · by_cases e : j = id
    · subst e
      rw [setLay_same] at hO
      have := S.lt _ hO
      simp at this
    · rw [upd_one_ne h r e] at hj
      rw [setLay_ne ρ _ e] at hO
      exact S.notO j rj hj hlj hO

theorem Sim.block_lt {G : Env} {ρ : Lay} {h : Heap} {O : Nat → Prop} {w : World} (S : Sim G ρ h O w) {j : Nat} {rj : Row} (hj : h j = some rj) (hlj : rj.live = true) : (ρ j).1 < w.heap.size := by
  have := S.rows j rj hj
  cases rj with
  | gone => cases hlj
  | map k es => obtain ⟨ents, clock, h1, _⟩ := this; exact (Array.getElem?_eq_some_iff.1 h1).1
  | cells e sz cs => obtain ⟨cur, h1, _⟩ := this; exact (Array.getElem?_eq_some_iff.1 h1).1
  | bytes e bs => obtain ⟨cur, h1, _⟩ := this; exact (Array.getElem?_eq_some_iff.1 h1).1

/-- A row that is written in its own block; its shape stays. -/
theorem step_write {G : Env} {ρ : Lay} {h : Heap} {O : Nat → Prop} {w w' : World} {id : Nat} {r r' : Row} (S : Sim G ρ h O w) (hid : h id = some r) (hl : r.live = true) (hl' : r'.live = true)
    (hm : r'.isMap = r.isMap) (hsz : r'.sz = r.sz) (hlen : r.len ≤ r'.len)
    (hh : ∀ b, b ≠ (ρ id).1 → w'.heap[b]? = w.heap[b]?) (hs : w'.heap.size = w.heap.size) (hbs : blockSize w' (ρ id).1 = blockSize w (ρ id).1)
    (ho : w'.os = w.os) (ht : w'.tape = w.tape) (hp : w'.output = w.output)
    (hR : ∀ F : Fr ρ h O w ρ (h.upd [(id, r')]) O w', RowR ρ (h.upd [(id, r')]) O w' id r') :
    Sim G ρ (h.upd [(id, r')]) O w' ∧ Fr ρ h O w ρ (h.upd [(id, r')]) O w' := by
  have hsome : ∀ j rj, (h.upd [(id, r')]) j = some rj → rj.live = true → ∃ rj', h j = some rj' ∧ rj'.live = true := fun j rj hj hlj => by
    by_cases e : j = id
    · subst e; exact ⟨r, hid, hl⟩
    · rw [upd_one_ne h r' e] at hj; exact ⟨rj, hj, hlj⟩
  have F : Fr ρ h O w ρ (h.upd [(id, r')]) O w' :=
    { os := ho, tape := ht, output := hp
      size := by rw [hs]; exact Nat.le_refl _
      keep := fun b hb hn => hh b fun e => hn id r hid hl e.symm
      dom := fun j rj hj => by
        by_cases e : j = id
        · subst e
          rw [hid] at hj
          cases hj
          exact ⟨r', upd_one_same h _ _, fun _ => ⟨hl, rfl, hm, hsz, hlen, hbs⟩⟩
        · refine ⟨rj, by rw [upd_one_ne h r' e]; exact hj, fun hlj => ⟨hlj, rfl, rfl, rfl, Nat.le_refl _, ?_⟩⟩
          have hne : (ρ j).1 ≠ (ρ id).1 := fun he => e (S.inj j id rj r hj hid hlj hl he)
          simp only [blockSize, hh _ hne]
      own := fun j rj hj hlj => by
        obtain ⟨rj', hj', hlj'⟩ := hsome j rj hj hlj
        exact .inl ⟨j, rj', hj', hlj', rfl⟩
      old := fun _ h => h
      oldnew := fun _ h => .inl h }
  refine ⟨S.step F (fun j rj hj hlj => ?_) (fun i j ri rj hi hj hli hlj he => ?_) (fun j rj hj hlj hO => ?_) (fun b hb => by rw [hs]; exact S.lt b hb), F⟩
  · by_cases e : j = id
    · subst e
      rw [upd_one_same] at hj
      cases hj
      exact .inr (hR F)
    · rw [upd_one_ne h r' e] at hj
      have hne : (ρ j).1 ≠ (ρ id).1 := fun he => e (S.inj j id rj r hj hid hlj hl he)
      exact .inl ⟨hj, rfl, hh _ hne⟩
  · obtain ⟨ri', hi', hli'⟩ := hsome i ri hi hli
    obtain ⟨rj', hj', hlj'⟩ := hsome j rj hj hlj
    exact S.inj i j ri' rj' hi' hj' hli' hlj' he
  · obtain ⟨rj', hj', hlj'⟩ := hsome j rj hj hlj
    exact S.notO j rj' hj' hlj' hO

/-! ### Renaming -/
structure RenOk (f : Nat → Option Nat) (ρ : Lay) (h : Heap) (ρ2 : Lay) (h2 : Heap) : Prop where
  ok : ∀ id k r, f id = some k → h id = some r → ∃ r2, h2 k = some r2 ∧ (r2.live = true → r.live = true ∧ ρ2 k = ρ id ∧ r2.isMap = r.isMap ∧ r2.sz = r.sz ∧ r.len ≤ r2.len)

theorem renL_getElem? (f : Nat → Option Nat) (l : List AV) (j : Nat) : (AV.renL f l)[j]? = (l[j]?).map (AV.ren f) := by
  rw [AV.renL_map]; simp

theorem VR_ren {f : Nat → Option Nat} {ρ ρ2 : Lay} {h h2 : Heap} {O : Nat → Prop} {w : World} (hf : RenOk f ρ h ρ2 h2) {a : AV} {v : Value} (hv : VR ρ h O w a v) : VR ρ2 h2 O w (a.ren f) v := by
  induction hv with
  | @dr a v hd =>
    have : ∀ {a v}, DR O w a v → VR ρ2 h2 O w (a.ren f) v := by
      intro a v hd
      induction hd with
      | dead v => exact .dr (.dead v)
      | lit v => exact .dr (.lit v)
      | bts h1 h2 h3 h4 h5 => exact .dr (.bts h1 h2 h3 h4 h5)
      | btsnil => exact .dr .btsnil
      | ro val h1 h2 h3 h4 h5 h6 h7 => exact .dr (.ro val h1 h2 h3 h4 h5 h6 h7)
      | ronil => exact .dr .ronil
      | rp val h1 h2 h3 => exact .dr (.rp val h1 h2 h3)
      | @agg cs vs h1 h2 ih =>
        refine .agg (by simp only [AV.renL_map, List.length_map]; exact h1) fun j c v hc hv => ?_
        rw [renL_getElem?] at hc
        obtain ⟨c', hc', rfl⟩ := Option.map_eq_some_iff.1 hc
        exact ih j c' v hc' hv
      | ifc h ih => exact .ifc ih
      | opt h h' ih => exact .opt ih h'
      | @clo fn fs cp vf vc h1 h2 h3 h4 ih1 ih2 =>
        refine .clo (by simp only [AV.renL_map, List.length_map]; exact h1) (by simp only [AV.renL_map, List.length_map]; exact h2) (fun j c v hc hv => ?_) (fun j c v hc hv => ?_)
        · rw [renL_getElem?] at hc
          obtain ⟨c', hc', rfl⟩ := Option.map_eq_some_iff.1 hc
          exact ih1 j c' v hc' hv
        · rw [renL_getElem?] at hc
          obtain ⟨c', hc', rfl⟩ := Option.map_eq_some_iff.1 hc
          exact ih2 j c' v hc' hv
    exact this hd
  | @own id off len cap r a c m h1 h2 h3 h4 h5 h6 h7 h8 h8' h9 h10 h11 =>
    simp only [AV.ren]
    cases hfi : f id with
    | none => exact .dr (.dead _)
    | some k =>
      obtain ⟨r2, hr2, hx⟩ := hf.ok id k r hfi h1
      by_cases hl : r2.live = true
      · obtain ⟨_, e1, e2, e3, e4⟩ := hx hl
        exact .own hr2 hl (by rw [e2]; exact h3) (by rw [e3]; omega) h5 (by rw [e1]; exact h6) (by rw [e1]; exact h7) h8 h8' (by rw [e1]; exact h9) (by rw [e3]; exact h10) h11
      · exact .ownGone hr2 (by simpa using hl)
  | @ownGone id off len cap r a l c h1 h2 =>
    simp only [AV.ren]
    cases hfi : f id with
    | none => exact .dr (.dead _)
    | some k =>
      obtain ⟨r2, hr2, hx⟩ := hf.ok id k r hfi h1
      refine .ownGone hr2 ?_
      cases hl : r2.live with
      | false => rfl
      | true => rw [(hx hl).1] at h2; cases h2
  | @ptr id off r h1 h2 h3 =>
    simp only [AV.ren]
    cases hfi : f id with
    | none => exact .dr (.dead _)
    | some k =>
      obtain ⟨r2, hr2, hx⟩ := hf.ok id k r hfi h1
      by_cases hl : r2.live = true
      · obtain ⟨_, e1, e2, e3, e4⟩ := hx hl
        rw [← e1]
        exact .ptr hr2 hl (by rw [e2]; exact h3)
      · exact .ptrGone hr2 (by simpa using hl)
  | @ptrGone id off r a h1 h2 =>
    simp only [AV.ren]
    cases hfi : f id with
    | none => exact .dr (.dead _)
    | some k =>
      obtain ⟨r2, hr2, hx⟩ := hf.ok id k r hfi h1
      refine .ptrGone hr2 ?_
      cases hl : r2.live with
      | false => rfl
      | true => rw [(hx hl).1] at h2; cases h2
  | @mp id r h1 h2 =>
    simp only [AV.ren]
    cases hfi : f id with
    | none => exact .dr (.dead _)
    | some k =>
      obtain ⟨r2, hr2, hx⟩ := hf.ok id k r hfi h1
      by_cases hl : r2.live = true
      · obtain ⟨_, e1, e2, e3, e4⟩ := hx hl
        rw [← e1]
        exact .mp hr2 (by rw [e2]; exact h2)
      · exact .mpGone hr2 (by simpa using hl)
  | @mpGone id r a h1 h2 =>
    simp only [AV.ren]
    cases hfi : f id with
    | none => exact .dr (.dead _)
    | some k =>
      obtain ⟨r2, hr2, hx⟩ := hf.ok id k r hfi h1
      refine .mpGone hr2 ?_
      cases hl : r2.live with
      | false => rfl
      | true => rw [(hx hl).1] at h2; cases h2
  | @agg cs vs h1 h2 ih =>
    refine .agg (by simp only [AV.renL_map, List.length_map]; exact h1) fun j c v hc hv => ?_
    rw [renL_getElem?] at hc
    obtain ⟨c', hc', rfl⟩ := Option.map_eq_some_iff.1 hc
    exact ih j c' v hc' hv
  | @tup cs vs h1 h2 ih =>
    refine .tup (by simp only [AV.renL_map, List.length_map]; exact h1) fun j c v hc hv => ?_
    rw [renL_getElem?] at hc
    obtain ⟨c', hc', rfl⟩ := Option.map_eq_some_iff.1 hc
    exact ih j c' v hc' hv
  | ifc h ih => exact .ifc ih
  | opt h h' ih => exact .opt ih h'
  | @clo fn fs cp vf vc h1 h2 h3 h4 ih1 ih2 =>
    refine .clo (by simp only [AV.renL_map, List.length_map]; exact h1) (by simp only [AV.renL_map, List.length_map]; exact h2) (fun j c v hc hv => ?_) (fun j c v hc hv => ?_)
    · rw [renL_getElem?] at hc
      obtain ⟨c', hc', rfl⟩ := Option.map_eq_some_iff.1 hc
      exact ih1 j c' v hc' hv
    · rw [renL_getElem?] at hc
      obtain ⟨c', hc', rfl⟩ := Option.map_eq_some_iff.1 hc
      exact ih2 j c' v hc' hv

end Go.Ax
