/-
  An abstract machine for Go functions (part 11): slices that are made, appended to, copied.
-/
import Derived.Test.YtdfefemnlimeeaaDoorAx10
import Derived.IntWalk
set_option linter.unusedVariables false
set_option linter.unusedSimpArgs false
namespace Go.Ax

section
variable {P : Program} {G : Env} {ρ : Lay} {h hr : Heap} {O : Nat → Prop} {w : World}

def bv (b : UInt8) : Value := .int .u8 b.toNat

theorem repL_length (z : List AV) : ∀ n, (repL z n).length = n * z.length
  | 0 => by simp [repL]
  | n + 1 => by simp [repL, repL_length z n, Nat.add_mul, Nat.add_comm]

theorem repL_get (z : List AV) : ∀ (n j : Nat), j < n * z.length → (repL z n)[j]? = z[j % z.length]?
  | 0, j, hj => by simp at hj
  | n + 1, j, hj => by
    rw [repL]
    by_cases h1 : j < z.length
    · rw [List.getElem?_append_left h1, Nat.mod_eq_of_lt h1]
    · rw [List.getElem?_append_right (by omega), repL_get z n (j - z.length) (by rw [Nat.add_mul] at hj; omega)]
      congr 1
      exact (Nat.mod_eq_sub_mod (by omega)).symm

theorem made_cells {z : Array Value} {n k : Nat} (hk : z.size = k) (h0 : 0 < k) :
    Cells ρ h O w (repL (z.toList.map .lit) n) ((Array.range (n * k)).map (fun i => z[i % z.size]!)) := by
  refine ⟨by simp [repL_length, hk], fun j a hj => ?_⟩
  have hlt := (List.getElem?_eq_some_iff.1 hj).1
  rw [repL_length] at hlt
  simp [hk] at hlt
  rw [repL_get _ _ _ (by simpa [hk] using hlt)] at hj
  obtain ⟨v, e1, rfl⟩ := lits_get hj
  simp [hk] at e1
  refine ⟨v, ?_, VR.ofLit v⟩
  have hm : j % k < k := Nat.mod_lt _ h0
  simp [hlt, hk]
  rw [getElem!_pos z (j % k) (by omega)]
  rw [Array.getElem?_eq_getElem (by omega)] at e1
  simpa using e1

theorem bytes_cells {bs : List UInt8} {cur : Array Value} (hc : cur.toList = bs.map bv) : Cells ρ h O w (bs.map u8) cur := by
  have hl : cur.size = bs.length := by have := congrArg List.length hc; simpa using this
  refine ⟨by simp [hl], fun j a hj => ?_⟩
  simp only [List.getElem?_map, Option.map_eq_some_iff] at hj
  obtain ⟨b, e1, rfl⟩ := hj
  refine ⟨bv b, ?_, VR.ofLit _⟩
  rw [← Array.getElem?_toList, hc]
  simp [e1]

/-- A new row and the slice of it. -/
theorem new_own {id len c : Nat} {cap : Option Nat} {r : Row} {cur : Array Value} {w' : World} (S : Sim G ρ h O w) (hfr : h id = none) (hl : r.live = true) (hm : r.isMap = false) (hlen : r.len ≤ cur.size)
    (hv : ∀ (j : Nat) a, r.cs[j]? = some a → ∃ v, cur[j]? = some v ∧ VR ρ h O w a v)
    (hh : w'.heap = w.heap.push (.cells cur r.elem (0, 0))) (ho : w'.os = w.os) (ht : w'.tape = w.tape) (hp : w'.output = w.output)
    (hlr : len * r.sz ≤ r.len) (hlc : len ≤ c) (hc : c ≤ 9223372036854775807) (hcm : c * r.sz ≤ cur.size) (hcap : ∀ c', cap = some c' → c = c') :
    Post G ρ h O w (.own id 0 len cap) [(id, r)] (.slice (some ⟨w.heap.size, 0, none⟩) len c) w' := by
  have N := new_row S hfr hl hm hlen hv hh ho ht hp
  exact ⟨_, O, own_new hl hm hlr hlc hc N.2.2 hcm hcap, N.1, N.2.1⟩

theorem makeSlice_sound {t : TypeId} {l c : AV} {x y : Value} {fr : Nat} {v : AV} {us : List (Nat × Row)} {C : List Prop} (S : Sim G ρ h O w) (hfr : h fr = none)
    (hl : VR ρ h O w l x) (hc : VR ρ h O w c y) (he : makeSliceE P t l c fr = some (v, us, C)) (hC : AllP C) :
    ∃ z w', (Instr.makeSlice t x y).run P w = .ok z w' ∧ Post G ρ h O w v us z w' := by
  unfold makeSliceE at he
  split at he
  · rename_i e n m hu hn hm
    obtain ⟨k1, rfl⟩ := intOf?_spec hl hn
    obtain ⟨k2, rfl⟩ := intOf?_spec hc hm
    split at he
    · rename_i i hi
      have core : ∀ (z : Value), i.zero = some z → z.cells.size = i.size → 0 < i.size → 0 ≤ n → n ≤ m → m ≤ 140737488355328 → m * i.bytes ≤ 140737488355328 →
          (Instr.makeSlice t (.int k1 n) (.int k2 m)).run P w = .ok (.slice (some ⟨w.heap.size, 0, none⟩) n.toNat m.toNat)
            { w with heap := w.heap.push (.cells ((Array.range (m.toNat * i.size)).map (fun j => z.cells[j % z.cells.size]!)) e (0, 0)) } := by
        intro z hz hzs h0 g1 g2 g3 g4
        have w1 : IntKind.i64.wrap n = n := IntWalk.i64_in _ (by omega)
        have w2 : IntKind.i64.wrap m = m := IntWalk.i64_in _ (by omega)
        have t1 : ¬ m < 0 := by omega
        have t2 : ¬ (i.bytes : Int) * m > 2 ^ 48 := by rw [Int.mul_comm]; omega
        have t3 : ¬ n < 0 := by omega
        have t4 : ¬ n > m := by omega
        have t5 : ¬ (281474976710656 : Int) < (i.bytes : Int) * m := by rw [Int.mul_comm]; omega
        have t6 : ¬ m < n := by omega
        by_cases hm0 : m.toNat * i.size = 0
        · have e0 : m.toNat = 0 := by
            rcases Nat.mul_eq_zero.1 hm0 with h | h
            · exact h
            · omega
          simp [Instr.makeSlice, run_underlying hu, asInt, asIntOf, typeInfo, hi, w1, w2, t1, t2, t3, t4, t5, t6, sizeOf, e0, newRow, show Array.range 0 = #[] from rfl]
        · have e0 : m.toNat ≠ 0 := fun h => hm0 (by simp [h])
          have e1 : i.size ≠ 0 := by omega
          simp [Instr.makeSlice, run_underlying hu, asInt, asIntOf, typeInfo, hi, w1, w2, t1, t2, t3, t4, t5, t6, sizeOf, e0, e1, newRow, zeroValue, hz]
          exact fun h => absurd h hm0
      cases hb : isU8 P e with
      | true =>
        simp only [hb, cond_true, Option.some.injEq, Prod.mk.injEq] at he
        obtain ⟨rfl, rfl, rfl⟩ := he
        obtain ⟨g1, g2, g3⟩ := hC.1
        obtain ⟨_, i', hi', s1, s2, s3⟩ := isU8_info hb
        rw [hi] at hi'
        cases hi'
        refine ⟨_, _, core (.int .u8 0) s3 (by simp [Value.cells, s1]) (by omega) g1 g2 g3 (by rw [s2]; omega), ?_⟩
        refine new_own (r := .bytes e (List.replicate m.toNat 0)) S hfr rfl rfl (by simp [Row.len, s1]) (fun j a hj => ?_) rfl rfl rfl rfl (by simp [Row.sz, Row.len]; omega) (by omega) (by omega) (by simp [Row.sz, s1]) (fun c' hc' => by simpa using hc')
        have hlt := (List.getElem?_eq_some_iff.1 hj).1
        simp only [Row.cs, List.map_replicate, List.length_replicate] at hlt hj
        rw [List.getElem?_replicate, if_pos hlt] at hj
        cases hj
        refine ⟨.int .u8 0, ?_, VR.ofLit _⟩
        simp [s1, Value.cells, hlt, Nat.mod_one]
      | false =>
        simp only [hb, cond_false] at he
        split at he
        · rename_i z hz
          cases hb2 : (Nat.beq z.cells.size i.size && Nat.ble 1 i.size) with
          | false => simp [hb2] at he
          | true =>
          simp only [hb2, cond_true, Option.some.injEq, Prod.mk.injEq] at he
          obtain ⟨rfl, rfl, rfl⟩ := he
          simp only [Bool.and_eq_true] at hb2
          have q1 : z.cells.size = i.size := Nat.eq_of_beq_eq_true hb2.1
          have q2 : 1 ≤ i.size := Nat.le_of_ble_eq_true hb2.2
          obtain ⟨g1, g2, g3, g4⟩ := hC.1
          refine ⟨_, _, core z hz q1 q2 g1 g2 g3 g4, ?_⟩
          have hM := made_cells (ρ := ρ) (h := h) (O := O) (w := w) (n := m.toNat) q1 q2
          exact new_own (r := .cells e i.size (repL (z.cells.toList.map .lit) m.toNat)) S hfr rfl rfl (by simp [Row.len, repL_length, q1]) hM.2 rfl rfl rfl rfl
            (by simp only [Row.sz, Row.len, repL_length, List.length_map, Array.length_toList, q1]; exact Nat.mul_le_mul_right _ (by omega)) (by omega) (by omega) (by simp [Row.sz]) (fun c' hc' => by simpa using hc')
        · cases he
    · cases he
  · cases he

/-! ### What is appended or copied -/
theorem getsL_length (get : Nat → List AV) (sz : Nat) : ∀ (n k : Nat), (∀ i, k ≤ i → i < k + n → (get i).length = sz) → (getsL get k n).length = n * sz
  | 0, k, _ => by simp [getsL]
  | n + 1, k, hg => by
    rw [getsL, List.length_append, hg k (by omega) (by omega), getsL_length get sz n (k + 1) (fun i h1 h2 => hg i (by omega) (by omega)), Nat.add_mul]
    omega

theorem getsL_get (get : Nat → List AV) (sz : Nat) : ∀ (n k j : Nat), (∀ i, k ≤ i → i < k + n → (get i).length = sz) → j < n * sz → (getsL get k n)[j]? = (get (k + j / sz))[j % sz]?
  | 0, k, j, _, hj => by simp at hj
  | n + 1, k, j, hg, hj => by
    have h0 : 0 < sz := by
      rcases Nat.eq_zero_or_pos sz with h | h
      · subst h; simp at hj
      · exact h
    have hl := hg k (by omega) (by omega)
    rw [getsL]
    by_cases h1 : j < sz
    · rw [List.getElem?_append_left (by omega), Nat.div_eq_of_lt h1, Nat.mod_eq_of_lt h1, Nat.add_zero]
    · rw [List.getElem?_append_right (by omega), hl, getsL_get get sz n (k + 1) (j - sz) (fun i h1 h2 => hg i (by omega) (by omega)) (by rw [Nat.add_mul] at hj; omega)]
      have e1 : j / sz = (j - sz) / sz + 1 := Nat.div_eq_sub_div h0 (by omega)
      have e2 : j % sz = (j - sz) % sz := Nat.mod_eq_sub_mod (by omega)
      rw [e1, e2]
      congr 2
      omega

/-- A source: how many elements, and their cells in whatever world whose memory is this one's. -/
structure Src (P : Program) (ρ : Lay) (h : Heap) (O : Nat → Prop) (w : World) (size : Nat) (x : Value) (m : Nat) (cs : List AV) (vals : List Value) : Prop where
  len : ∀ w' : World, (Builtin.lenOf x).run P w' = .ok m w'
  first : ∀ w' : World, w'.heap = w.heap → ∀ k, k ≤ m → (Builtin.firstCells size k x).run P w' = .ok (vals.take (k * size)).toArray w'
  size : vals.length = m * size
  same : cs.length = vals.length
  rel : ∀ (j : Nat) c u, cs[j]? = some c → vals[j]? = some u → VR ρ h O w c u

theorem first_some {size m c : Nat} {a : Addr} {vals : List Value} (hl : vals.length = m * size) (hv : ∀ (j : Nat) u, vals[j]? = some u → w.cell? (a.add j) = some u) (w' : World) (hw : w'.heap = w.heap) (k : Nat) (hk : k ≤ m) :
    (Builtin.firstCells size k (.slice (some a) m c)).run P w' = .ok (vals.take (k * size)).toArray w' := by
  refine run_firstCells_some w' size k a m c (vals.take (k * size)) ?_ fun j v hj => ?_
  · have := Nat.mul_le_mul_right size hk
    simp
    omega
  · have hlt := (List.getElem?_eq_some_iff.1 hj).1
    simp at hlt
    rw [List.getElem?_take, if_pos (by omega)] at hj
    rw [cell?_heap (w := w) (by rw [hw])]
    exact hv j v hj

theorem vals_of {size m c : Nat} {a : Addr} {cs : List AV} (hl : cs.length = m * size) (hv : ∀ (j : Nat) c, cs[j]? = some c → ∃ u, w.cell? (a.add j) = some u ∧ VR ρ h O w c u) :
    ∃ vals, Src P ρ h O w size (.slice (some a) m c) m cs vals := by
  have hex : ∀ j, ∃ u, j < cs.length → w.cell? (a.add j) = some u := fun j => by
    by_cases hj : j < cs.length
    · obtain ⟨u, h1, _⟩ := hv j cs[j] (List.getElem?_eq_getElem hj)
      exact ⟨u, fun _ => h1⟩
    · exact ⟨undef, fun h => absurd h hj⟩
  obtain ⟨f, hf⟩ : ∃ f : Nat → Value, ∀ j, j < cs.length → w.cell? (a.add j) = some (f j) := ⟨fun j => (hex j).choose, fun j => (hex j).choose_spec⟩
  have hvl : ((List.range cs.length).map f).length = m * size := by simp [hl]
  have hval : ∀ (j : Nat) u, ((List.range cs.length).map f)[j]? = some u → w.cell? (a.add j) = some u := fun j u hu => by
    have hj : j < cs.length := by have := (List.getElem?_eq_some_iff.1 hu).1; simpa using this
    simp [hj] at hu
    rw [← hu]
    exact hf j hj
  refine ⟨(List.range cs.length).map f, fun w' => by simp [Builtin.lenOf], fun w' hw k hk => first_some hvl hval w' hw k hk, hvl, by simp, fun j c' u h1 h2 => ?_⟩
  obtain ⟨u', e1, e2⟩ := hv j c' h1
  rw [hval j u h2] at e1
  cases e1
  exact e2

theorem src_nil (size : Nat) : Src P ρ h O w size (.slice none 0 0) 0 [] [] :=
  ⟨fun w' => by simp [Builtin.lenOf], fun w' _ k hk => by simp [Builtin.firstCells], by simp, rfl, fun j c u h1 => by simp at h1⟩

theorem srcB_sound {a : AV} {x : Value} {bs : List UInt8} (S : Sim G ρ h O w) (hsub : ∀ id r, hr id = some r → h id = some r) (ha : VR ρ h O w a x) (he : srcB a hr = some bs) :
    ∃ vals, Src P ρ h O w 1 x bs.length (bs.map u8) vals := by
  unfold srcB at he
  split at he
  · rename_i bs'
    cases he
    rcases VR_bts ha with ⟨rfl, rfl⟩ | ⟨a', cap, rfl, k1, k2, k3, k4, k5⟩
    · exact ⟨[], src_nil 1⟩
    · refine vals_of (by simp) fun j c hj => ?_
      simp only [List.getElem?_map, Option.map_eq_some_iff] at hj
      obtain ⟨b, e1, rfl⟩ := hj
      exact ⟨_, k5 j b e1, VR.ofLit _⟩
  · rename_i id off len cap
    split at he
    · rename_i e bs' hh
      cases he
      have hid := hsub _ _ hh
      obtain ⟨_, _, _, _, hfit, _⟩ := VR_own ha hid rfl
      obtain ⟨a', c', rfl, e1, e2⟩ := sub_cells S ha hid rfl rfl
      simp only [Row.sz, Row.len, Row.cs, Nat.mul_one] at hfit e2
      have hlen : ((bs'.drop off).take len).length = len := by simp; omega
      have := vals_of (P := P) (ρ := ρ) (h := h) (O := O) (w := w) (size := 1) (m := len) (c := c') (a := a') (cs := ((bs'.drop off).take len).map u8) (by simp; omega) (fun j c hj => e2 j c (by
        rw [← List.map_drop, ← List.map_take]; exact hj))
      rw [hlen]
      exact this
    · cases he
  · cases he
    have hx := VR_lit ha
    subst hx
    exact ⟨[], src_nil 1⟩
  · rename_i s
    cases he
    have hx := VR_lit ha
    subst hx
    have hl : s.data.toList.length = s.size := Array.length_toList
    refine ⟨s.data.toList.map bv, fun w' => by simp [Builtin.lenOf, hl], fun w' _ k hk => ?_, by simp, by simp, fun j c u h1 h2 => ?_⟩
    · simp only [Builtin.firstCells, Sem.run_pure]
      congr 1
      apply Array.ext'
      have hks : k ≤ s.size := by rw [← hl]; exact hk
      simp [bv]
      rfl
    · simp only [List.getElem?_map, Option.map_eq_some_iff] at h1 h2
      obtain ⟨b, e1, rfl⟩ := h1
      obtain ⟨b', e2, rfl⟩ := h2
      rw [e1] at e2
      cases e2
      exact VR.ofLit _
  · cases he

theorem srcC_sound {a : AV} {x : Value} {sz m : Nat} {news : List AV} (S : Sim G ρ h O w) (hsub : ∀ id r, hr id = some r → h id = some r) (ha : VR ρ h O w a x) (he : srcC sz a hr = some (m, news)) (hsz : 1 ≤ sz) :
    ∃ vals, Src P ρ h O w sz x m news vals := by
  unfold srcC at he
  split at he
  · rename_i sz' n get
    cases hb : Nat.beq sz sz' with
    | false => simp [hb] at he
    | true =>
    have e0 : sz = sz' := Nat.eq_of_beq_eq_true hb
    subst e0
    simp only [hb, cond_true, Option.some.injEq, Prod.mk.injEq] at he
    obtain ⟨rfl, rfl⟩ := he
    rcases VR_ro ha with ⟨rfl, rfl⟩ | ⟨a', cap, val, rfl, k1, k2, k3, k4, k5, k6, k7⟩
    · exact ⟨[], src_nil sz⟩
    · have hg : ∀ i, 0 ≤ i → i < 0 + n → (get i).length = sz := fun i _ hi => k5 i (by omega)
      refine vals_of (getsL_length get sz n 0 hg) fun j c hj => ?_
      have hlt := (List.getElem?_eq_some_iff.1 hj).1
      rw [getsL_length get sz n 0 hg] at hlt
      rw [getsL_get get sz n 0 j hg hlt, Nat.zero_add] at hj
      have hi : j / sz < n := Nat.div_lt_of_lt_mul (by rw [Nat.mul_comm]; exact hlt)
      refine ⟨val (j / sz) (j % sz), ?_, .dr (k7 _ _ _ hi hj)⟩
      have := k6 _ _ _ hi hj
      rw [Nat.mul_comm, Nat.div_add_mod] at this
      exact this
  · rename_i id off len cap
    split at he
    · rename_i e sz' cs hh
      cases hb : Nat.beq sz sz' with
      | false => simp [hb] at he
      | true =>
      have e0 : sz = sz' := Nat.eq_of_beq_eq_true hb
      subst e0
      simp only [hb, cond_true, Option.some.injEq, Prod.mk.injEq] at he
      obtain ⟨rfl, rfl⟩ := he
      have hid := hsub _ _ hh
      obtain ⟨_, _, _, _, hfit, _⟩ := VR_own ha hid rfl
      obtain ⟨a', c', rfl, e1, e2⟩ := sub_cells S ha hid rfl rfl
      simp only [Row.sz, Row.len, Row.cs] at hfit e2
      exact vals_of (by simp; omega) e2
    · cases he
  · cases he
    have hx := VR_lit ha
    subst hx
    exact ⟨[], src_nil sz⟩
  · cases he

/-! ### append -/
theorem lookL_two {id fr : Nat} {r1 r2 : Row} (hne : id ≠ fr) (j : Nat) : lookL [(id, r1), (fr, r2)] j = if j = id then some r1 else if j = fr then some r2 else none := by
  simp only [lookL]
  by_cases h1 : j = id
  · subst h1; simp
  · have : Nat.beq id j = false := by cases hb : Nat.beq id j with
      | false => rfl
      | true => exact absurd (Nat.eq_of_beq_eq_true hb).symm h1
    rw [this, if_neg h1]
    by_cases h2 : j = fr
    · subst h2; simp
    · have : Nat.beq fr j = false := by cases hb : Nat.beq fr j with
        | false => rfl
        | true => exact absurd (Nat.eq_of_beq_eq_true hb).symm h2
      rw [this, if_neg h2]
      rfl

/-- One row goes, another comes: in the same block, or in a new one. -/
theorem step_swap {id fr : Nat} {r r' : Row} {x : Nat × Nat} {w' : World} (S : Sim G ρ h O w) (hid : h id = some r) (hl : r.live = true) (hfr : h fr = none) (hl' : r'.live = true)
    (hx : x.1 = (ρ id).1 ∨ w.heap.size ≤ x.1) (hlt : x.1 < w'.heap.size) (hsz : w.heap.size ≤ w'.heap.size)
    (hh : ∀ b, b < w.heap.size → b ≠ (ρ id).1 → w'.heap[b]? = w.heap[b]?) (ho : w'.os = w.os) (ht : w'.tape = w.tape) (hp : w'.output = w.output)
    (hR : ∀ F : Fr ρ h O w (setLay ρ fr x) (h.upd [(id, .gone), (fr, r')]) O w', RowR (setLay ρ fr x) (h.upd [(id, .gone), (fr, r')]) O w' fr r') :
    Sim G (setLay ρ fr x) (h.upd [(id, .gone), (fr, r')]) O w' ∧ Fr ρ h O w (setLay ρ fr x) (h.upd [(id, .gone), (fr, r')]) O w' := by
  have hne : id ≠ fr := fun e => by rw [e, hfr] at hid; cases hid
  have hu : ∀ j, (h.upd [(id, .gone), (fr, r')]) j = if j = id then some .gone else if j = fr then some r' else h j := fun j => by
    simp only [Heap.upd, lookL_two hne]
    by_cases h1 : j = id
    · rw [if_pos h1, if_pos h1]
    · rw [if_neg h1, if_neg h1]
      by_cases h2 : j = fr
      · rw [if_pos h2, if_pos h2]
      · rw [if_neg h2, if_neg h2]
  have hidlt := S.block_lt hid hl
  have F : Fr ρ h O w (setLay ρ fr x) (h.upd [(id, .gone), (fr, r')]) O w' :=
    { os := ho, tape := ht, output := hp, size := hsz
      keep := fun b hb hn => hh b hb fun e => hn id r hid hl e.symm
      dom := fun j rj hj => by
        have hjf : j ≠ fr := fun e => by rw [e, hfr] at hj; cases hj
        by_cases hji : j = id
        · exact ⟨.gone, by rw [hu, if_pos hji], fun h => by cases h⟩
        · refine ⟨rj, by rw [hu, if_neg hji, if_neg hjf]; exact hj, fun hlj => ⟨hlj, setLay_ne ρ x hjf, rfl, rfl, Nat.le_refl _, ?_⟩⟩
          have hb : (ρ j).1 ≠ (ρ id).1 := fun e => hji (S.inj j id rj r hj hid hlj hl e)
          simp only [blockSize, hh _ (S.block_lt hj hlj) hb]
      own := fun j rj hj hlj => by
        rw [hu] at hj
        by_cases hji : j = id
        · rw [if_pos hji] at hj; cases hj; cases hlj
        · rw [if_neg hji] at hj
          by_cases hjf : j = fr
          · rw [hjf, setLay_same]
            exact hx.elim (fun e => .inl ⟨id, r, hid, hl, e.symm⟩) .inr
          · rw [if_neg hjf] at hj
            exact .inl ⟨j, rj, hj, hlj, by rw [setLay_ne ρ x hjf]⟩
      old := fun _ h => h
      oldnew := fun _ h => .inl h }
  have hnew : ∀ j rj, h j = some rj → rj.live = true → j ≠ id → x.1 ≠ (ρ j).1 := fun j rj hj hlj hji e => by
    rcases hx with hx | hx
    · exact hji (S.inj j id rj r hj hid hlj hl (e.symm.trans hx))
    · have := S.block_lt hj hlj; omega
  refine ⟨S.step F (fun j rj hj hlj => ?_) (fun i j ri rj hi hj hli hlj he => ?_) (fun j rj hj hlj hO => ?_) (fun b hb => by have := S.lt b hb; omega), F⟩
  · rw [hu] at hj
    by_cases hji : j = id
    · rw [if_pos hji] at hj; cases hj; cases hlj
    · rw [if_neg hji] at hj
      by_cases hjf : j = fr
      · subst hjf
        rw [if_pos rfl] at hj
        cases hj
        exact .inr (hR F)
      · rw [if_neg hjf] at hj
        have hb : (ρ j).1 ≠ (ρ id).1 := fun e => hji (S.inj j id rj r hj hid hlj hl e)
        exact .inl ⟨hj, setLay_ne ρ x hjf, hh _ (S.block_lt hj hlj) hb⟩
  · rw [hu] at hi hj
    by_cases hii : i = id
    · rw [if_pos hii] at hi; cases hi; cases hli
    · by_cases hji : j = id
      · rw [if_pos hji] at hj; cases hj; cases hlj
      · rw [if_neg hii] at hi
        rw [if_neg hji] at hj
        by_cases hif : i = fr <;> by_cases hjf : j = fr
        · rw [hif, hjf]
        · rw [if_neg hjf] at hj
          rw [hif, setLay_same, setLay_ne ρ x hjf] at he
          exact absurd he (hnew j rj hj hlj hji)
        · rw [if_neg hif] at hi
          rw [hjf, setLay_same, setLay_ne ρ x hif] at he
          exact absurd he.symm (hnew i ri hi hli hii)
        · rw [if_neg hif] at hi
          rw [if_neg hjf] at hj
          rw [setLay_ne ρ x hif, setLay_ne ρ x hjf] at he
          exact S.inj i j ri rj hi hj hli hlj he
  · rw [hu] at hj
    by_cases hji : j = id
    · rw [if_pos hji] at hj; cases hj; cases hlj
    · rw [if_neg hji] at hj
      by_cases hjf : j = fr
      · rw [hjf, setLay_same] at hO
        rcases hx with hx | hx
        · exact S.notO id r hid hl (hx ▸ hO)
        · have := S.lt _ hO; omega
      · rw [if_neg hjf] at hj
        rw [setLay_ne ρ x hjf] at hO
        exact S.notO j rj hj hlj hO

theorem append_room {t xt ty e : TypeId} {dx : TypeDesc} {i : TypeInfo} {a : Addr} {len cap m : Nat} {x : Value} {news : List Value} {w' : World} (ht : P.underlying t = some (.slice e)) (hxt : P.underlying xt = some dx)
    (hd : (∃ e', dx = .slice e') ∨ dx = .string) (hi : P.info? e = some i) (hlen : (Builtin.lenOf x).run P w = .ok m w) (hf : (Builtin.firstCells i.size m x).run P w = .ok news.toArray w) (hroom : len + m ≤ cap)
    (hst : (storeCells (a.add (len * i.size)) news).run P w = .ok () w') :
    (Builtin.append_ #[t, xt] ty #[.slice (some a) len cap, x]).run P w = .ok (.slice (some a) (len + m) cap) w' := by
  rcases hd with ⟨e', rfl⟩ | rfl
  · simp [Builtin.append_, run_underlying ht, run_underlying hxt, sizeOf, typeInfo, hi, hlen, hroom, hf, hst]
  · simp [Builtin.append_, run_underlying ht, run_underlying hxt, sizeOf, typeInfo, hi, hlen, hroom, hf, hst]

theorem append_more {t xt ty e : TypeId} {dx : TypeDesc} {i : TypeInfo} {z : Value} {base : Option Addr} {len cap m : Nat} {x : Value} {news olds : List Value} (ht : P.underlying t = some (.slice e)) (hxt : P.underlying xt = some dx)
    (hd : (∃ e', dx = .slice e') ∨ dx = .string) (hi : P.info? e = some i) (hz : i.zero = some z) (hlen : (Builtin.lenOf x).run P w = .ok m w) (hf : (Builtin.firstCells i.size m x).run P w.drew = .ok news.toArray w.drew)
    (hfo : (Builtin.firstCells i.size len (.slice base len cap)).run P w.drew = .ok olds.toArray w.drew)
    (hg : cap < len + m) (h63 : len + m ≤ 140737488355328) (hb : (len + m) * i.bytes ≤ 140737488355328) :
    (Builtin.append_ #[t, xt] ty #[.slice base len cap, x]).run P w = .ok (.slice (some ⟨w.heap.size, 0, none⟩) (len + m) (grownCap w (len + m) cap e))
      (w.drew.alloc (.cells (olds.toArray ++ news.toArray ++ Builtin.zeroCells z.cells (grownCap w (len + m) cap e - (len + m))) e)) := by
  have hn : ¬ (len + m ≤ cap) := by omega
  have h63' : ¬ (9223372036854775807 < ((len : Int) + (m : Int))) := by omega
  have hfit := growslice_fits (need := len + m) (old := cap) hg hb
  have h48' : ¬ (281474976710656 < Builtin.nextslicecap (len + m) cap * i.bytes) := by omega
  rcases hd with ⟨e', rfl⟩ | rfl
  · simp [Builtin.append_, run_underlying ht, run_underlying hxt, sizeOf, typeInfo, zeroValue, hi, hz, hlen, hn, h63', h48', Question.forced, hf, hfo, newRow, grownCap]
    congr 2
    apply Array.ext'
    simp [List.append_assoc]
  · simp [Builtin.append_, run_underlying ht, run_underlying hxt, sizeOf, typeInfo, zeroValue, hi, hz, hlen, hn, h63', h48', Question.forced, hf, hfo, newRow, grownCap]
    congr 2
    apply Array.ext'
    simp [List.append_assoc]
end
end Go.Ax
