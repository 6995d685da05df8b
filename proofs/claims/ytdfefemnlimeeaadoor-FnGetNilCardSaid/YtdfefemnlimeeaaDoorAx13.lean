/-
  An abstract machine for Go functions (part 13): copy, slice literals, maps whose keys are whole numbers.
-/
import Derived.Test.YtdfefemnlimeeaaDoorAx12
set_option linter.unusedVariables false
set_option linter.unusedSimpArgs false
namespace Go.Ax

section
variable {P : Program} {G : Env} {ρ : Lay} {h hr : Heap} {O : Nat → Prop} {w : World}

theorem copy_sound {t xt ty : TypeId} {d x : AV} {dv xv : Value} {v : AV} {us : List (Nat × Row)} {c : List Prop} (S : Sim G ρ h O w) (hsub : ∀ id r, hr id = some r → h id = some r)
    (hd : VR ρ h O w d dv) (hx : VR ρ h O w x xv) (he : copyE P t xt d x hr = some (v, us, c)) :
    ∃ y w', (Builtin.copy_ #[t, xt] ty #[dv, xv]).run P w = .ok y w' ∧ Post G ρ h O w v us y w' := by
  unfold copyE at he
  split at he
  · rename_i e id off len cap ht
    cases hb : (isU8 P e && copyOk P xt e) with
    | false => simp [hb] at he
    | true =>
    simp only [hb, cond_true] at he
    simp only [Bool.and_eq_true] at hb
    obtain ⟨_, i, hi, s1, s2, s3⟩ := isU8_info hb.1
    have hsz := run_szOf (w := w) (isU8_size hb.1)
    split at he
    · rename_i e' bs src hh hsrc0
      simp only [Option.some.injEq, Prod.mk.injEq] at he
      obtain ⟨rfl, rfl, rfl⟩ := he
      have hid := hsub _ _ hh
      obtain ⟨vals, hsrc⟩ := srcB_sound (P := P) S hsub hx hsrc0
      obtain ⟨a, c', m0, rfl, k1, k2, k3, k4, k5, k6, k7, k8, k9⟩ := VR_own hd hid rfl
      obtain ⟨cur, q1, q2, q3⟩ := row_cells S hid rfl rfl
      simp only [Row.elem, Row.len, Row.cs, Row.sz, Nat.mul_one] at k1 k8 q1 q2 q3
      have hm0 : m0 = cur.size := by simp [blockSize, q1] at k7; exact k7.symm
      subst hm0
      obtain ⟨b, o, sp⟩ := a
      simp at k2 k3
      subst k2; subst k3
      simp only at k4 k8
      have hvl : vals.length = src.length := by rw [hsrc.size]; omega
      have hone : ∀ u ∈ vals, u.oneCell' = true := allOne_vals (allOne_u8 src) hsrc.same.symm hsrc.rel
      have hf := hsrc.first w rfl (min src.length len) (Nat.min_le_left _ _)
      rw [Nat.mul_one] at hf
      have hrun : ∀ w', (storeCells ⟨(ρ id).1, o, none⟩ (vals.take (min src.length len))).run P w = .ok () w' →
          (Builtin.copy_ #[t, xt] ty #[.slice (some ⟨(ρ id).1, o, none⟩) len c', xv]).run P w = .ok (.int .i64 ((min src.length len : Nat) : Int)) w' := fun w' hst => by
        have e1 : Nat.min src.length len = min src.length len := rfl
        simp [Builtin.copy_, run_underlying ht, hsrc.len w, hsz, e1, hf, hst, goInt]
      have hst := run_storeCells_at P (ρ id).1 o e' (vals.take (min src.length len)) 0 cur w q1 (by simp; omega) (fun u hu => hone u (List.mem_of_mem_take hu))
      simp only [Nat.add_zero] at hst
      refine ⟨_, _, hrun _ hst, ρ, O, VR.ofLit _, ?_⟩
      have hN : (vals.take (min src.length len)).length = min src.length len := by simp; omega
      have hNb : (src.take (min src.length len)).length = min src.length len := by simp
      refine write_row (r := .bytes e' bs) (r' := .bytes e' (bs.take off ++ src.take (min src.length len) ++ bs.drop (off + min src.length len))) (cur := cur) S hid rfl rfl rfl rfl rfl ?_ rfl q1 ?_ ?_ ?_
      · simp [Row.len]; omega
      · simp only [List.size_toArray, List.length_append, List.length_take, List.length_drop, Array.length_toList]; omega
      · simp only [Row.len, List.size_toArray, List.length_append, List.length_take, List.length_drop, Array.length_toList]; omega
      · intro j av hj
        simp only [List.getElem?_toArray]
        rw [seg_get _ _ _ _ (by rw [hN]; simp only [Array.length_toList]; omega), hN]
        simp only [Row.cs, List.getElem?_map] at hj
        have hj2 : ((bs.take off ++ src.take (min src.length len) ++ bs.drop (off + (src.take (min src.length len)).length))[j]?).map u8 = some av := by rw [hNb]; exact hj
        rw [seg_get _ _ _ _ (by rw [hNb]; omega), hNb] at hj2
        by_cases hin : off ≤ j ∧ j < off + min src.length len
        · rw [if_pos hin, List.getElem?_take, if_pos (by omega)] at hj2
          have ho := k4 (.inl (by omega))
          rw [if_pos (by omega), List.getElem?_take, if_pos (by omega)]
          have e1 : (ρ id).2 + j - o = j - off := by omega
          rw [e1]
          have hlt : j - off < vals.length := by omega
          have hv2 : vals[j - off]? = some vals[j - off] := List.getElem?_eq_getElem hlt
          exact ⟨_, hv2, hsrc.rel _ _ _ (by rw [List.getElem?_map]; exact hj2) hv2⟩
        · rw [if_neg hin] at hj2
          have hout : ¬ (o ≤ (ρ id).2 + j ∧ (ρ id).2 + j < o + min src.length len) := by
            intro hc
            have ho := k4 (.inl (by omega))
            omega
          rw [if_neg hout]
          obtain ⟨u, g1, g2⟩ := q3 j av (by rw [List.getElem?_map]; exact hj2)
          exact ⟨u, by simpa using g1, g2⟩
    · rename_i e' cs src hh hsrc0
      simp only [Option.some.injEq, Prod.mk.injEq] at he
      obtain ⟨rfl, rfl, rfl⟩ := he
      have hid := hsub _ _ hh
      obtain ⟨vals, hsrc⟩ := srcB_sound (P := P) S hsub hx hsrc0
      obtain ⟨a, c', m0, rfl, k1, k2, k3, k4, k5, k6, k7, k8, k9⟩ := VR_own hd hid rfl
      obtain ⟨cur, q1, q2, q3⟩ := row_cells S hid rfl rfl
      simp only [Row.elem, Row.len, Row.cs, Row.sz, Nat.mul_one] at k1 k8 q1 q2 q3
      have hm0 : m0 = cur.size := by simp [blockSize, q1] at k7; exact k7.symm
      subst hm0
      obtain ⟨b, o, sp⟩ := a
      simp at k2 k3
      subst k2; subst k3
      simp only at k4 k8
      have hvl : vals.length = src.length := by rw [hsrc.size]; omega
      have hone : ∀ u ∈ vals, u.oneCell' = true := allOne_vals (allOne_u8 src) hsrc.same.symm hsrc.rel
      have hf := hsrc.first w rfl (min src.length len) (Nat.min_le_left _ _)
      rw [Nat.mul_one] at hf
      have hrun : ∀ w', (storeCells ⟨(ρ id).1, o, none⟩ (vals.take (min src.length len))).run P w = .ok () w' →
          (Builtin.copy_ #[t, xt] ty #[.slice (some ⟨(ρ id).1, o, none⟩) len c', xv]).run P w = .ok (.int .i64 ((min src.length len : Nat) : Int)) w' := fun w' hst => by
        have e1 : Nat.min src.length len = min src.length len := rfl
        simp [Builtin.copy_, run_underlying ht, hsrc.len w, hsz, e1, hf, hst, goInt]
      have hst := run_storeCells_at P (ρ id).1 o e' (vals.take (min src.length len)) 0 cur w q1 (by simp; omega) (fun u hu => hone u (List.mem_of_mem_take hu))
      simp only [Nat.add_zero] at hst
      refine ⟨_, _, hrun _ hst, ρ, O, VR.ofLit _, ?_⟩
      have hN : (vals.take (min src.length len)).length = min src.length len := by simp; omega
      have hNb : (src.take (min src.length len)).length = min src.length len := by simp
      refine write_row (r := .cells e' 1 cs) (r' := .cells e' 1 (cs.take off ++ (src.take (min src.length len)).map u8 ++ cs.drop (off + min src.length len))) (cur := cur) S hid rfl rfl rfl rfl rfl ?_ rfl q1 ?_ ?_ ?_
      · simp [Row.len]; omega
      · simp only [List.size_toArray, List.length_append, List.length_take, List.length_drop, Array.length_toList]; omega
      · simp only [Row.len, List.size_toArray, List.length_append, List.length_map, List.length_take, List.length_drop, Array.length_toList]; omega
      · intro j av hj
        simp only [List.getElem?_toArray]
        rw [seg_get _ _ _ _ (by rw [hN]; simp only [Array.length_toList]; omega), hN]
        simp only [Row.cs] at hj
        have hNc : ((src.take (min src.length len)).map u8).length = min src.length len := by simp
        have hj2 : (cs.take off ++ (src.take (min src.length len)).map u8 ++ cs.drop (off + ((src.take (min src.length len)).map u8).length))[j]? = some av := by rw [hNc]; exact hj
        rw [seg_get _ _ _ _ (by rw [hNc]; omega), hNc] at hj2
        by_cases hin : off ≤ j ∧ j < off + min src.length len
        · rw [if_pos hin] at hj2
          have ho := k4 (.inl (by omega))
          rw [if_pos (by omega), List.getElem?_take, if_pos (by omega)]
          have e1 : (ρ id).2 + j - o = j - off := by omega
          rw [e1]
          have hlt : j - off < vals.length := by omega
          have hv2 : vals[j - off]? = some vals[j - off] := List.getElem?_eq_getElem hlt
          rw [List.getElem?_map, List.getElem?_take, if_pos (by omega)] at hj2
          exact ⟨_, hv2, hsrc.rel _ _ _ (by rw [List.getElem?_map]; exact hj2) hv2⟩
        · rw [if_neg hin] at hj2
          have hout : ¬ (o ≤ (ρ id).2 + j ∧ (ρ id).2 + j < o + min src.length len) := by
            intro hc
            have ho := k4 (.inl (by omega))
            omega
          rw [if_neg hout]
          obtain ⟨u, g1, g2⟩ := q3 j av hj2
          exact ⟨u, by simpa using g1, g2⟩
    · cases he
  · cases he

theorem freeze_heap (w : World) (b n k : Nat) (cur : Array Value) (e : TypeId) (hb : w.heap[b]? = some (.cells cur e (0, 0))) (hk : k ≠ 0) :
    (w.freeze ⟨b, n, none⟩ k).heap[b]? = some (.cells cur e (n, n + k)) := by
  have hlt : b < w.heap.size := (Array.getElem?_eq_some_iff.1 hb).1
  have h2 := (Array.getElem?_eq_some_iff.1 hb).2
  simp [World.freeze, hk, Array.getElem?_modify, hb]

theorem freeze_other (w : World) (b n k b' : Nat) (hb : b' ≠ b) : (w.freeze ⟨b, n, none⟩ k).heap[b']? = w.heap[b']? := by
  simp only [World.freeze]
  split
  · rfl
  · simp [Array.getElem?_modify, Ne.symm hb]

theorem freeze_size (w : World) (b n k : Nat) : (w.freeze ⟨b, n, none⟩ k).heap.size = w.heap.size := by
  simp only [World.freeze]
  split <;> simp

theorem self_sound {src dst : TypeId} {a : AV} {x : Value} {v : AV} {us : List (Nat × Row)} {c : List Prop} (S : Sim G ρ h O w) (hsub : ∀ id r, hr id = some r → h id = some r)
    (ha : VR ρ h O w a x) (he : selfE P src dst a hr = some (v, us, c)) : ∃ y w', (convert src dst x).run P w = .ok y w' ∧ Post G ρ h O w v us y w' := by
  unfold selfE at he
  split at he
  · rename_i e id off len cap hs
    cases hb : (isU8 P e && Nat.beq src dst) with
    | false => simp [hb] at he
    | true =>
      simp only [hb, cond_true] at he
      simp only [Bool.and_eq_true] at hb
      have hsd : src = dst := Nat.eq_of_beq_eq_true hb.2
      subst hsd
      have hu := isU8_spec hb.1
      split at he
      · rename_i e' bs hh
        simp only [Option.some.injEq, Prod.mk.injEq] at he
        obtain ⟨rfl, rfl, rfl⟩ := he
        have hid := hsub _ _ hh
        obtain ⟨a', c', m, hx, k1, k2, k3, k4, k5, k6, k7, k8, k9⟩ := VR_own ha hid rfl
        obtain ⟨cur, q1, q2, q3⟩ := row_cells S hid rfl rfl
        simp only [Row.elem, Row.len, Row.cs, Row.sz, Nat.mul_one] at k1 k8 q1 q2 q3
        obtain ⟨b, o, sp⟩ := a'
        simp at k2 k3
        subst k2; subst k3; subst hx
        have hmod : ∀ b', b' ≠ (ρ id).1 → (w.freeze ⟨(ρ id).1, cur.size, none⟩ 1).heap[b']? = w.heap[b']? := fun b' hb' => freeze_other w _ _ _ b' hb'
        have hat := freeze_heap w (ρ id).1 cur.size 1 cur e' q1 (by decide)
        have hsh : w.shape? (ρ id).1 = some (e', cur.size) := by simp [World.shape?, q1]
        have hlen : ((bs.drop off).take len).length = len := by simp; omega
        refine ⟨.slice (some ⟨(ρ id).1, o, none⟩) len c', w.freeze ⟨(ρ id).1, cur.size, none⟩ 1, ?_, ?_⟩
        · simp [convert, run_underlying hs, run_underlying hu, markStringish, shape, freeze, Sem.run, hsh]
        · have F : Fr ρ h O w ρ (h.upd [(id, .gone)]) (fun b => O b ∨ b = (ρ id).1) (w.freeze ⟨(ρ id).1, cur.size, none⟩ 1) :=
            { os := by simp [World.freeze], tape := by simp [World.freeze], output := by simp [World.freeze]
              size := by rw [freeze_size]; exact Nat.le_refl _
              keep := fun b hb hn => hmod b (fun e => hn id _ hid rfl e.symm)
              dom := fun j rj hj => by
                by_cases e : j = id
                · subst e; exact ⟨.gone, upd_one_same h _ .gone, fun h => by cases h⟩
                · exact ⟨rj, by rw [upd_one_ne h .gone e]; exact hj, fun hlj => ⟨hlj, rfl, rfl, rfl, Nat.le_refl _, by
                    simp only [blockSize, hmod _ (fun e2 => e (S.inj _ _ _ _ hj hid hlj rfl e2))]⟩⟩
              own := fun j rj hj hlj => by
                by_cases e : j = id
                · subst e; rw [upd_one_same h _ .gone] at hj; cases hj; cases hlj
                · rw [upd_one_ne h .gone e] at hj; exact .inl ⟨j, rj, hj, hlj, rfl⟩
              old := fun _ h => .inl h
              oldnew := fun b hb => hb.elim .inl fun e => .inr (.inl ⟨id, _, hid, rfl, e.symm⟩) }
          refine ⟨ρ, fun b => O b ∨ b = (ρ id).1, ?_, S.step F (fun j rj hj hlj => ?_) (fun i j ri rj hi hj hli hlj hij => ?_) (fun j rj hj hlj hO => ?_) (fun b hb => ?_), F⟩
          · have hv : VR ρ (h.upd [(id, .gone)]) (fun b => O b ∨ b = (ρ id).1) (w.freeze ⟨(ρ id).1, cur.size, none⟩ 1) (.bts ((bs.drop off).take len)) (.slice (some ⟨(ρ id).1, o, none⟩) ((bs.drop off).take len).length c') :=
              .dr (.bts (fun _ => rfl) (fun _ => .inr rfl) (by rw [hlen]; exact k5) k6 fun i b hi => by
                have hlt := (List.getElem?_eq_some_iff.1 hi).1
                rw [hlen] at hlt
                have ho : o = (ρ id).2 + off := k4 (.inl (by omega))
                rw [List.getElem?_take, if_pos hlt, List.getElem?_drop] at hi
                obtain ⟨u, g1, g2⟩ := q3 (off + i) (u8 b) (by rw [List.getElem?_map, hi]; rfl)
                have := VR_lit g2
                subst this
                rw [add_none]
                simp only [World.cell?, hat]
                rw [ho, Nat.add_assoc, g1]
                rfl)
            rw [hlen] at hv
            exact hv
          · have e : j ≠ id := fun e => by subst e; rw [upd_one_same h _ .gone] at hj; cases hj; cases hlj
            rw [upd_one_ne h .gone e] at hj
            exact .inl ⟨hj, rfl, hmod _ (fun e2 => e (S.inj _ _ _ _ hj hid hlj rfl e2))⟩
          · have e1 : i ≠ id := fun e => by subst e; rw [upd_one_same h _ .gone] at hi; cases hi; cases hli
            have e2 : j ≠ id := fun e => by subst e; rw [upd_one_same h _ .gone] at hj; cases hj; cases hlj
            rw [upd_one_ne h .gone e1] at hi
            rw [upd_one_ne h .gone e2] at hj
            exact S.inj i j ri rj hi hj hli hlj hij
          · have e : j ≠ id := fun e => by subst e; rw [upd_one_same h _ .gone] at hj; cases hj; cases hlj
            rw [upd_one_ne h .gone e] at hj
            rcases hO with hO | hO
            · exact S.notO j rj hj hlj hO
            · exact e (S.inj _ _ _ _ hj hid hlj rfl hO)
          · rw [freeze_size]
            rcases hb with hb | hb
            · exact S.lt b hb
            · subst hb; exact S.block_lt hid rfl
      · cases he
    
  · cases he

theorem bytesC_spec : ∀ {cs : List AV} {bs : List UInt8} {c : List Prop}, bytesC cs = some (bs, c) → AllP c → bs.length = cs.length ∧ ∀ (j : Nat) a, (bs.map u8)[j]? = some a → cs[j]? = some a
  | [], bs, c, he, hC => by simp [bytesC] at he; obtain ⟨rfl, rfl⟩ := he; exact ⟨rfl, fun j a h => by simp at h⟩
  | x :: l, bs, c, he, hC => by
    unfold bytesC at he
    split at he
    · rename_i h1; cases h1
    · rename_i n l' h1
      simp only [List.cons.injEq] at h1
      obtain ⟨rfl, rfl⟩ := h1
      split at he
      · rename_i bs' c' h2
        simp only [Option.some.injEq, Prod.mk.injEq] at he
        obtain ⟨rfl, rfl⟩ := he
        obtain ⟨i1, i2⟩ := bytesC_spec h2 hC.2
        obtain ⟨g1, g2⟩ := hC.1
        refine ⟨by simp [i1], fun j a hj => ?_⟩
        cases j with
        | zero =>
          simp at hj ⊢
          subst hj
          have : ((UInt8.ofNat n.toNat).toNat : Int) = n := by simp; omega
          simp [u8]
          simpa using this.symm
        | succ j => exact i2 j a (by simpa using hj)
      · cases he
    · cases he

theorem fillE_length {place : Nat → Option (Nat × Nat)} : ∀ (ps : List (Nat × AV)) (a b : List AV), fillE place a ps = some b → b.length = a.length
  | [], a, b, h => by simp [fillE] at h; rw [h]
  | (i, av) :: ps, a, b, h => by
    simp only [fillE] at h
    split at h
    · rename_i off size vs h1 h2
      cases hc : (Nat.beq vs.length size && Nat.ble (off + size) a.length) with
      | false => simp [hc] at h
      | true =>
        simp only [hc, cond_true] at h
        rw [fillE_length ps _ _ h, length_setL]
    · cases h

theorem buildSlice_run {t e : TypeId} {len size : Nat} {z : Value} {parts : Array (Nat × Value)} {arr : Array Value} (ht : P.underlying t = some (.slice e)) (hsz : szOf P e = some size) (hz : (zeroValue e).run P w = .ok z w)
    (hzs : z.cells.size = size) (hle : len * size ≤ 16777216)
    (hf : Instr.fill (fun i => some (i * size, size)) ((Array.range (len * size)).map (fun j => z.cells[j % z.cells.size]!)) parts.toList = some arr) :
    (Instr.buildSlice t len parts).run P w = .ok (.slice (some ⟨w.heap.size, 0, none⟩) len len) { w with heap := w.heap.push (.cells arr e (0, 0)) } := by
  have h1 : ¬ len * size > 2 ^ 24 := by omega
  by_cases h0 : len * size = 0
  · have hf' : Instr.fill (fun i => some (i * size, size)) ((Array.range (len * size)).map (fun j => (#[] : Array Value)[j % (#[] : Array Value).size]!)) parts.toList = some arr := by
      rw [← hf, h0]; simp [show Array.range 0 = #[] from rfl]
    simp only [Instr.buildSlice, Sem.run_bind, run_underlying ht, Result.andThen_ok, run_szOf (w := w) hsz, if_neg h1, if_pos h0, Sem.run_pure, hf', newRow, run_newObj]
  · simp only [Instr.buildSlice, Sem.run_bind, run_underlying ht, Result.andThen_ok, run_szOf (w := w) hsz, if_neg h1, if_neg h0, Sem.run_pure, hz, hf, newRow, run_newObj]

theorem buildSlice_sound {t : TypeId} {len : Nat} {parts : Array (Nat × Operand)} {f : Operand → AV} {g : Operand → Value} {fr : Nat} {v : AV} {us : List (Nat × Row)} {c : List Prop} (S : Sim G ρ h O w) (hfr : h fr = none)
    (hp : ∀ p ∈ parts.toList, VR ρ h O w (f p.2) (g p.2)) (he : buildSliceE P t len (parts.toList.map fun (i, x) => (i, f x)) fr = some (v, us, c)) (hC : AllP c) :
    ∃ y w', (Instr.buildSlice t len (parts.map fun (i, x) => (i, g x))).run P w = .ok y w' ∧ Post G ρ h O w v us y w' := by
  have hparts : (parts.map fun (i, x) => (i, g x)).toList = parts.toList.map fun (i, x) => (i, g x) := by simp
  unfold buildSliceE at he
  split at he
  · rename_i e ht
    cases hb : isU8 P e with
    | true =>
      simp only [hb, cond_true] at he
      obtain ⟨_, i, hi, s1, s2, s3⟩ := isU8_info hb
      have hzr : (zeroValue e).run P w = .ok (.int .u8 0) w := by simp [zeroValue, typeInfo, hi, s3]
      cases hbl : Nat.ble len 16777216 with
      | false => simp [hbl] at he
      | true =>
      simp only [hbl, cond_true] at he
      have hle : len ≤ 16777216 := Nat.le_of_ble_eq_true hbl
      split at he
      · rename_i cs hfl
        split at he
        · rename_i bs c' hbc
          simp only [Option.some.injEq, Prod.mk.injEq] at he
          obtain ⟨rfl, rfl, rfl⟩ := he
          obtain ⟨b1, b2⟩ := bytesC_spec hbc hC
          have hz : Cells ρ h O w (repL [.lit (.int .u8 0)] len) ((Array.range (len * 1)).map (fun j => ((Value.int .u8 0).cells)[j % ((Value.int .u8 0).cells).size]!)) := made_cells (z := (Value.int .u8 0).cells) rfl (by omega)
          obtain ⟨arr, ha, hA⟩ := fill_sound (g := g) parts.toList _ cs _ hp hz hfl
          have hcl : cs.length = len := by rw [fillE_length _ _ _ hfl, repL_length]; simp
          have hrun := buildSlice_run (P := P) (w := w) (t := t) (len := len) (parts := parts.map fun (i, x) => (i, g x)) ht (isU8_size hb) hzr rfl (by omega) (by rw [hparts]; exact ha)
          refine ⟨_, _, hrun, ?_⟩
          have hal : arr.size = len := by rw [← hA.1, hcl]
          exact new_own (r := .bytes e bs) S hfr rfl rfl (by simp [Row.len, hal, b1, hcl]) (fun j a hj => hA.2 j a (b2 j a hj)) rfl rfl rfl rfl (by simp [Row.sz, Row.len, b1, hcl]) (Nat.le_refl _) (by omega) (by simp [Row.sz, hal]) (fun c' hc' => by simpa using hc')
        · cases he
      · cases he
    | false =>
      simp only [hb, cond_false] at he
      split at he
      · rename_i sz z hsz hz
        obtain ⟨i, zv, hi, hzz, rfl⟩ := zeroCells?_spec hz
        have hzr : (zeroValue e).run P w = .ok zv w := by simp [zeroValue, typeInfo, hi, hzz]
        cases hb2 : (Nat.ble (len * sz) 16777216 && Nat.beq (zv.cells.toList.map AV.lit).length sz && Nat.ble 1 sz) with
        | false => simp only [hb2, cond_false] at he; cases he
        | true =>
        simp only [hb2, cond_true, Option.map_eq_some_iff, Prod.mk.injEq] at he
        obtain ⟨cs, hfl, rfl, rfl, rfl⟩ := he
        simp only [Bool.and_eq_true] at hb2
        have q0 : len * sz ≤ 16777216 := Nat.le_of_ble_eq_true hb2.1.1
        have q1 : zv.cells.size = sz := by have := Nat.eq_of_beq_eq_true hb2.1.2; simpa using this
        have q2 : 1 ≤ sz := Nat.le_of_ble_eq_true hb2.2
        have hz0 : Cells ρ h O w (repL (zv.cells.toList.map .lit) len) ((Array.range (len * sz)).map (fun j => zv.cells[j % zv.cells.size]!)) := made_cells q1 q2
        obtain ⟨arr, ha, hA⟩ := fill_sound (g := g) parts.toList _ cs _ hp hz0 hfl
        have hcl : cs.length = len * sz := by rw [fillE_length _ _ _ hfl, repL_length]; simp [q1]
        have hrun := buildSlice_run (P := P) (w := w) (t := t) (parts := parts.map fun (i, x) => (i, g x)) ht hsz hzr q1 q0 (by rw [hparts]; exact ha)
        refine ⟨_, _, hrun, ?_⟩
        have hal : arr.size = len * sz := by rw [← hA.1, hcl]
        have hlen : len ≤ 16777216 := Nat.le_trans (Nat.le_mul_of_pos_right _ q2) q0
        exact new_own (r := .cells e sz cs) S hfr rfl rfl (by simp [Row.len, hal, hcl]) hA.2 rfl rfl rfl rfl (by simp [Row.sz, Row.len, hcl]) (Nat.le_refl _) (by omega) (by simp [Row.sz, hal]) (fun c' hc' => by simpa using hc')
      · cases he
  · cases he
end
end Go.Ax
