/-
  An abstract machine for Go functions (part 6): operations that make, read and write memory.
-/
import Derived.Test.YtdfefemnlimeeaaDoorAx5
set_option linter.unusedVariables false
set_option linter.unusedSimpArgs false
namespace Go.Ax

section
variable {P : Program} {G : Env} {ρ : Lay} {h : Heap} {O : Nat → Prop} {w : World}

theorem one_oneCell {a : AV} {v : Value} (ha : a.one = true) (hv : VR ρ h O w a v) : v.oneCell' = true := by
  cases hv with
  | dr hd =>
    cases hd with
    | dead => simp [AV.one] at ha
    | opt => simp [AV.one] at ha
    | lit => cases v <;> simp_all [AV.one, Value.oneCell']
    | agg => simp [AV.one] at ha
    | _ => rfl
  | agg => simp [AV.one] at ha
  | tup => simp [AV.one] at ha
  | opt => simp [AV.one] at ha
  | _ => rfl

theorem allOne_spec : ∀ {l : List AV}, allOne l = true → ∀ a ∈ l, a.one = true
  | [], _, a, ha => by cases ha
  | b :: l, hl, a, ha => by
    unfold allOne at hl
    cases hb : b.one with
    | false => simp [hb] at hl
    | true =>
      simp [hb] at hl
      rcases List.mem_cons.1 ha with rfl | ha
      · exact hb
      · exact allOne_spec hl a ha

/-- A new row of cells in a new block. -/
theorem new_row {id : Nat} {r : Row} {cur : Array Value} {w' : World} (S : Sim G ρ h O w) (hfr : h id = none) (hl : r.live = true) (hm : r.isMap = false) (hlen : r.len ≤ cur.size)
    (hv : ∀ (j : Nat) a, r.cs[j]? = some a → ∃ v, cur[j]? = some v ∧ VR ρ h O w a v)
    (hh : w'.heap = w.heap.push (.cells cur r.elem (0, 0))) (ho : w'.os = w.os) (ht : w'.tape = w.tape) (hp : w'.output = w.output) :
    Sim G (setLay ρ id (w.heap.size, 0)) (h.upd [(id, r)]) O w' ∧ Fr ρ h O w (setLay ρ id (w.heap.size, 0)) (h.upd [(id, r)]) O w' ∧ blockSize w' w.heap.size = some cur.size := by
  have hb : w'.heap[w.heap.size]? = some (.cells cur r.elem (0, 0)) := by rw [hh]; simp
  have := step_new (r := r) (w' := w') S hfr hl hh ho ht hp (fun F => by
    rw [rowR_cells hl hm, setLay_same]
    refine ⟨cur, hb, by rw [Row.cs_length]; simpa using hlen, fun j a hj => ?_⟩
    obtain ⟨v, h1, h2⟩ := hv j a hj
    exact ⟨v, by simpa using h1, VR_mono S F h2⟩)
  exact ⟨this.1, this.2, by simp [blockSize, hb]⟩

theorem ptr_new {id off : Nat} {r : Row} {w' : World} (hl : r.live = true) (hm : r.isMap = false) :
    VR (setLay ρ id (w.heap.size, 0)) (h.upd [(id, r)]) O w' (.ptr id off) (.pointer (some ⟨w.heap.size, off, none⟩)) := by
  have := VR.ptr (ρ := setLay ρ id (w.heap.size, 0)) (O := O) (w := w') (off := off) (upd_one_same h id r) hl hm
  simpa [setLay_same] using this

theorem own_new {id len c m : Nat} {cap : Option Nat} {r : Row} {w' : World} (hl : r.live = true) (hm : r.isMap = false) (hlen : len * r.sz ≤ r.len) (hc : len ≤ c) (hc' : c ≤ 9223372036854775807)
    (hb : blockSize w' w.heap.size = some m) (hcm : c * r.sz ≤ m) (hcap : ∀ c', cap = some c' → c = c') :
    VR (setLay ρ id (w.heap.size, 0)) (h.upd [(id, r)]) O w' (.own id 0 len cap) (.slice (some ⟨w.heap.size, 0, none⟩) len c) :=
  .own (upd_one_same h id r) hl hm (by omega) rfl (by rw [setLay_same]) (fun _ => by rw [setLay_same]) hc hc' (by rw [setLay_same]; exact hb) (by simpa using hcm) hcap

theorem zeroCells?_spec {t : TypeId} {cs : List AV} (hz : zeroCells? P t = some cs) : ∃ i z, P.info? t = some i ∧ i.zero = some z ∧ cs = z.cells.toList.map .lit := by
  unfold zeroCells? at hz
  cases hi : P.info? t with
  | none => simp [hi] at hz
  | some i =>
    cases hz' : i.zero with
    | none => simp [hi, hz'] at hz
    | some z => simp [hi, hz'] at hz; exact ⟨i, z, rfl, hz', hz.symm⟩

theorem lits_get {l : List Value} {j : Nat} {a : AV} (hj : (l.map AV.lit)[j]? = some a) : ∃ v, l[j]? = some v ∧ a = .lit v := by
  simp only [List.getElem?_map, Option.map_eq_some_iff] at hj
  obtain ⟨v, h1, h2⟩ := hj
  exact ⟨v, h1, h2.symm⟩

theorem alloc_sound {t : TypeId} {fr : Nat} {v : AV} {us : List (Nat × Row)} {c : List Prop} (S : Sim G ρ h O w) (hfr : h fr = none) (he : allocE P t fr = some (v, us, c)) :
    ∃ x w', (Instr.alloc t true (.tuple #[])).run P w = .ok x w' ∧ Post G ρ h O w v us x w' := by
  unfold allocE at he
  split at he
  · rename_i cs hz
    obtain ⟨i, z, hi, hzz, rfl⟩ := zeroCells?_spec hz
    simp only [Option.some.injEq, Prod.mk.injEq] at he
    obtain ⟨rfl, rfl, rfl⟩ := he
    have N := new_row (r := .cells t ((szOf P t).getD 1) (z.cells.toList.map .lit)) (cur := z.cells) (w' := { w with heap := w.heap.push (.cells z.cells t (0, 0)) }) S hfr rfl rfl
      (by simp [Row.len]) (fun j a hj => by
        obtain ⟨v, h1, rfl⟩ := lits_get hj
        exact ⟨v, by simpa using h1, VR.ofLit v⟩) rfl rfl rfl rfl
    refine ⟨.pointer (some ⟨w.heap.size, 0, none⟩), { w with heap := w.heap.push (.cells z.cells t (0, 0)) }, ?_, _, O, ptr_new rfl rfl, N.1, N.2.1⟩
    simp [Instr.alloc, zeroValue, typeInfo, hi, hzz, newVar, newRow]
  · cases he

theorem box_sound {t : TypeId} {a : AV} {x : Value} {fr : Nat} {v : AV} {us : List (Nat × Row)} {c : List Prop} (S : Sim G ρ h O w) (hfr : h fr = none) (ha : VR ρ h O w a x)
    (he : boxE P t a fr = some (v, us, c)) : ∃ y w', (Instr.box t x).run P w = .ok y w' ∧ Post G ρ h O w v us y w' := by
  unfold boxE at he
  split at he
  · rename_i cs hc
    obtain ⟨h1, h2⟩ := cells?_spec hc ha
    simp only [Option.some.injEq, Prod.mk.injEq] at he
    obtain ⟨rfl, rfl, rfl⟩ := he
    have N := new_row (r := .cells t ((szOf P t).getD 1) cs) (cur := x.cells) (w' := { w with heap := w.heap.push (.cells x.cells t (0, 0)) }) S hfr rfl rfl
      (by simp [Row.len, h1]) (fun j a hj => by
        have hlt : j < x.cells.size := by rw [h1]; exact (List.getElem?_eq_some_iff.1 hj).1
        exact ⟨x.cells[j], by simp [hlt], h2 j a _ hj (by simp [hlt])⟩) rfl rfl rfl rfl
    refine ⟨.pointer (some ⟨w.heap.size, 0, none⟩), { w with heap := w.heap.push (.cells x.cells t (0, 0)) }, ?_, _, O, ptr_new rfl rfl, N.1, N.2.1⟩
    simp [Instr.box, newVar, newRow]
  · cases he

/-! ### filling -/
theorem length_setL : ∀ (vs cs : List AV) (off : Nat), (setL cs off vs).length = cs.length
  | [], cs, off => rfl
  | v :: vs, cs, off => by simp [setL, length_setL vs]

theorem setL_get : ∀ (vs cs : List AV) (off j : Nat), off + vs.length ≤ cs.length →
    (setL cs off vs)[j]? = if off ≤ j ∧ j < off + vs.length then vs[j - off]? else cs[j]?
  | [], cs, off, j, _ => by simp [setL]; omega
  | v :: vs, cs, off, j, hl => by
    simp only [List.length_cons] at hl
    rw [setL, setL_get vs (cs.set off v) (off + 1) j (by simp; omega)]
    by_cases h1 : off + 1 ≤ j ∧ j < off + 1 + vs.length
    · rw [if_pos h1, if_pos (by simp; omega)]
      have : j - off = (j - (off + 1)) + 1 := by omega
      rw [this]
      rfl
    · rw [if_neg h1]
      by_cases h2 : j = off
      · subst h2
        rw [if_pos (by simp)]
        simp [List.getElem?_set]
        omega
      · rw [if_neg (by simp; omega), List.getElem?_set, if_neg (Ne.symm h2)]

theorem foldl_set_get (off : Nat) : ∀ (l : List Value) (k : Nat) (cs : Array Value) (j : Nat), off + k + l.length ≤ cs.size →
    ((l.zipIdx k).foldl (fun cs (x : Value × Nat) => cs.setIfInBounds (off + x.2) x.1) cs)[j]? = if off + k ≤ j ∧ j < off + k + l.length then l[j - (off + k)]? else cs[j]?
  | [], k, cs, j, _ => by simp; omega
  | v :: l, k, cs, j, hl => by
    simp only [List.length_cons] at hl
    simp only [List.zipIdx_cons, List.foldl_cons]
    rw [foldl_set_get off l (k + 1) _ j (by simp; omega)]
    by_cases h1 : off + (k + 1) ≤ j ∧ j < off + (k + 1) + l.length
    · rw [if_pos h1, if_pos (by simp; omega)]
      have : j - (off + k) = (j - (off + (k + 1))) + 1 := by omega
      rw [this]
      rfl
    · rw [if_neg h1]
      by_cases h2 : j = off + k
      · subst h2
        rw [if_pos (by simp)]
        simp [Array.getElem?_setIfInBounds]
        omega
      · rw [if_neg (by simp; omega), Array.getElem?_setIfInBounds, if_neg (Ne.symm h2)]

theorem foldl_set_size (off : Nat) : ∀ (l : List (Value × Nat)) (cs : Array Value), (l.foldl (fun cs (x : Value × Nat) => cs.setIfInBounds (off + x.2) x.1) cs).size = cs.size
  | [], cs => rfl
  | x :: l, cs => by simp [foldl_set_size off l]

/-- Cells that read as told, all of them. -/
def Cells (ρ : Lay) (h : Heap) (O : Nat → Prop) (w : World) (cs : List AV) (cur : Array Value) : Prop :=
  cs.length = cur.size ∧ ∀ (j : Nat) a, cs[j]? = some a → ∃ v, cur[j]? = some v ∧ VR ρ h O w a v

theorem fill_sound {place : Nat → Option (Nat × Nat)} {f : Operand → AV} {g : Operand → Value} : ∀ (parts : List (Nat × Operand)) (cs out : List AV) (cur : Array Value),
    (∀ p ∈ parts, VR ρ h O w (f p.2) (g p.2)) → Cells ρ h O w cs cur → fillE place cs (parts.map fun (i, x) => (i, f x)) = some out →
    ∃ arr, Instr.fill place cur (parts.map fun (i, x) => (i, g x)) = some arr ∧ Cells ρ h O w out arr
  | [], cs, out, cur, _, hc, he => by
    simp only [List.map_nil, fillE, Option.some.injEq] at he
    subst he
    exact ⟨cur, rfl, hc⟩
  | (i, x) :: parts, cs, out, cur, hp, hc, he => by
    simp only [List.map_cons, fillE] at he
    split at he
    · rename_i off size vs hpl hvs
      cases hb : (Nat.beq vs.length size && Nat.ble (off + size) cs.length) with
      | false => simp [hb] at he
      | true =>
        simp only [hb, cond_true] at he
        simp only [Bool.and_eq_true] at hb
        have e1 : vs.length = size := Nat.eq_of_beq_eq_true hb.1
        have e2 : off + size ≤ cs.length := Nat.le_of_ble_eq_true hb.2
        obtain ⟨k1, k2⟩ := cells?_spec hvs (hp (i, x) (by simp))
        have hsz : (g x).cells.size = size := by rw [k1, e1]
        have hfit : off + size ≤ cur.size := by rw [← hc.1]; exact e2
        have hc' : Cells ρ h O w (setL cs off vs) ((g x).cells.zipIdx.foldl (fun cs (x : Value × Nat) => cs.setIfInBounds (off + x.2) x.1) cur) := by
          rw [← Array.foldl_toList, Array.toList_zipIdx]
          refine ⟨by rw [length_setL, foldl_set_size]; exact hc.1, fun j a hj => ?_⟩
          rw [setL_get vs cs off j (by omega)] at hj
          rw [foldl_set_get off _ 0 cur j (by simp; omega)]
          simp only [Nat.add_zero, Array.length_toList, hsz]
          by_cases hin : off ≤ j ∧ j < off + vs.length
          · rw [if_pos hin] at hj
            rw [if_pos (by omega)]
            have hlt : j - off < (g x).cells.size := by omega
            exact ⟨(g x).cells[j - off], by simp [hlt], k2 (j - off) a _ hj (by simp [hlt])⟩
          · rw [if_neg hin] at hj
            rw [if_neg (by omega)]
            exact hc.2 j a hj
        obtain ⟨arr, ha, hA⟩ := fill_sound parts _ out _ (fun p hpp => hp p (by simp [hpp])) hc' he
        refine ⟨arr, ?_, hA⟩
        simp only [List.map_cons, Instr.fill, hpl]
        rw [if_neg (by simp; omega)]
        exact ha
    · cases he

theorem placesE_spec : ∀ {l : List Field} {pl : List (Nat × Nat)}, placesE P l = some pl → ∀ (i : Nat) p, pl[i]? = some p → ∃ f, l[i]? = some f ∧ p.1 = f.offset ∧ szOf P f.type = some p.2
  | [], pl, he, i, p, hp => by simp [placesE] at he; subst he; simp at hp
  | f :: l, pl, he, i, p, hp => by
    unfold placesE at he
    split at he
    · rename_i n r h1 h2
      simp only [Option.some.injEq] at he
      subst he
      cases i with
      | zero => simp at hp; subst hp; exact ⟨f, rfl, rfl, h1⟩
      | succ i => exact placesE_spec h2 i p (by simpa using hp)
    · cases he

theorem run_szOf {t : TypeId} {n : Nat} (hn : szOf P t = some n) : (sizeOf t).run P w = .ok n w := by
  unfold szOf at hn
  cases hi : P.info? t with
  | none => simp [hi] at hn
  | some i => simp [hi] at hn; simp [sizeOf, typeInfo, hi, hn]

theorem places_run : ∀ {l : List Field} {pl : List (Nat × Nat)}, placesE P l = some pl → (l.mapM (fun f => (do pure (f.offset, ← sizeOf f.type) : Sem (Nat × Nat)))).run P w = .ok pl w
  | [], pl, he => by simp [placesE] at he; subst he; simp
  | f :: l, pl, he => by
    unfold placesE at he
    split at he
    · rename_i n r h1 h2
      simp only [Option.some.injEq] at he
      subst he
      have ih := places_run h2
      have hs := run_szOf (w := w) h1
      simp only [List.mapM_cons, Sem.run_bind, hs, ih, Result.andThen_ok, Sem.run_pure]
    · cases he

theorem lits_cells (cur : Array Value) : Cells ρ h O w (cur.toList.map .lit) cur :=
  ⟨by simp, fun j a hj => by obtain ⟨v, h1, rfl⟩ := lits_get hj; exact ⟨v, by simpa using h1, VR.ofLit v⟩⟩

theorem Cells.agg {cs : List AV} {cur : Array Value} (hc : Cells ρ h O w cs cur) : VR ρ h O w (.agg cs) (.agg cur) :=
  .agg hc.1 fun j c v h1 h2 => by
    obtain ⟨v', h3, h4⟩ := hc.2 j c h1
    rw [h3] at h2
    cases h2
    exact h4

theorem build_sound {t : TypeId} {parts : Array (Nat × Operand)} {f : Operand → AV} {g : Operand → Value} {v : AV} {us : List (Nat × Row)} {c : List Prop} (S : Sim G ρ h O w)
    (hp : ∀ p ∈ parts.toList, VR ρ h O w (f p.2) (g p.2)) (he : buildE P t (parts.toList.map fun (i, x) => (i, f x)) = some (v, us, c)) :
    ∃ y w', (Instr.build t (parts.map fun (i, x) => (i, g x))).run P w = .ok y w' ∧ Post G ρ h O w v us y w' := by
  unfold buildE at he
  split at he
  · cases he
  · rename_i z hz
    obtain ⟨i, zv, hi, hzz, rfl⟩ := zeroCells?_spec hz
    split at he
    · rename_i fields hu
      split at he
      · rename_i pl hpl
        simp only [Option.map_eq_some_iff, Prod.mk.injEq] at he
        obtain ⟨cs, hfl, rfl, rfl, rfl⟩ := he
        obtain ⟨arr, ha, hA⟩ := fill_sound (g := g) parts.toList _ cs zv.cells hp (lits_cells zv.cells) hfl
        have hrun := places_run (w := w) hpl
        refine ⟨.agg arr, w, ?_, post_pure S hA.agg⟩
        have hm : (fields.mapM (fun f => (do pure (f.offset, ← sizeOf f.type) : Sem (Nat × Nat)))).run P w = .ok pl.toArray w := by
          rw [← Array.toArray_toList (xs := fields), List.mapM_toArray]
          simp only [Sem.run_map, hrun, Result.andThen_ok]
        simp [nth_eq] at ha
        simp only [Instr.build, zeroValue, typeInfo, Sem.run_bind, run_program, Result.andThen_ok, hi, hzz, Sem.run_pure, run_underlying hu, hm]
        simp [ha]
      · cases he
    · rename_i k e hu
      split at he
      · rename_i n hn
        simp only [Option.map_eq_some_iff, Prod.mk.injEq] at he
        obtain ⟨cs, hfl, rfl, rfl, rfl⟩ := he
        obtain ⟨arr, ha, hA⟩ := fill_sound (g := g) parts.toList _ cs zv.cells hp (lits_cells zv.cells) hfl
        unfold szOf at hn
        cases hie : P.info? e with
        | none => simp [hie] at hn
        | some ie =>
          simp [hie] at hn
          refine ⟨.agg arr, w, ?_, post_pure S hA.agg⟩
          simp [Instr.build, zeroValue, typeInfo, sizeOf, hi, hzz, run_underlying hu, hie, hn, ha]
      · cases he
    · cases he
end
end Go.Ax
