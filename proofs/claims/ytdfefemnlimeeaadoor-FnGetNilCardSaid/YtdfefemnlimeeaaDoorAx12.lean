/-
  An abstract machine for Go functions (part 12): append, copy, slice literals.
-/
import Derived.Test.YtdfefemnlimeeaaDoorAx11
set_option linter.unusedVariables false
set_option linter.unusedSimpArgs false
namespace Go.Ax

section
variable {P : Program} {G : Env} {ρ : Lay} {h hr : Heap} {O : Nat → Prop} {w : World}

theorem allOne_u8 : ∀ bs : List UInt8, allOne (bs.map u8) = true
  | [] => rfl
  | b :: bs => by simp [allOne, u8, AV.one, allOne_u8 bs]

theorem app_get {α : Type} (a b : List α) (n j : Nat) (hn : a.length = n) : (a ++ b)[j]? = if j < n then a[j]? else b[j - n]? := by
  subst hn
  by_cases h : j < a.length
  · rw [if_pos h, List.getElem?_append_left h]
  · rw [if_neg h, List.getElem?_append_right (by omega)]

/-- 'append' onto a slice of an own row. -/
theorem append_own {t xt ty e : TypeId} {dx : TypeDesc} {i : TypeInfo} {z : Value} {id fr off len m : Nat} {cap : Option Nat} {r r' : Row} {s x : Value} {news : List AV} {vals : List Value}
    (S : Sim G ρ h O w) (hid : h id = some r) (hl : r.live = true) (hm : r.isMap = false) (hfr : h fr = none) (hs : VR ρ h O w (.own id off len cap) s)
    (ht : P.underlying t = some (.slice e)) (hxt : P.underlying xt = some dx) (hd : (∃ e', dx = .slice e') ∨ dx = .string) (hi : P.info? e = some i) (hz : i.zero = some z) (hzs : z.cells.size = i.size)
    (hsz : r.sz = i.size) (hel : r.elem = e) (hsrc : Src P ρ h O w i.size x m news vals) (hone : allOne news = true) (hpos : 1 ≤ i.size)
    (hl' : r'.live = true) (hm' : r'.isMap = false) (hsz' : r'.sz = r.sz) (hel' : r'.elem = e) (hcs : r'.cs = (r.cs.drop off).take (len * r.sz) ++ news)
    (hn : len + m ≤ 140737488355328) (hb : (len + m) * i.bytes ≤ 140737488355328) :
    ∃ y w', (Builtin.append_ #[t, xt] ty #[s, x]).run P w = .ok y w' ∧ Post G ρ h O w (.own fr 0 (len + m) none) [(id, .gone), (fr, r')] y w' := by
  obtain ⟨a, c, m0, rfl, k1, k2, k3, k4, k5, k6, k7, k8, k9⟩ := VR_own hs hid hl
  obtain ⟨cur, q1, q2, q3⟩ := row_cells S hid hl hm
  have hm0 : m0 = cur.size := by simp [blockSize, q1] at k7; exact k7.symm
  subst hm0
  have hol : ((r.cs.drop off).take (len * r.sz)).length = len * r.sz := by simp [Row.cs_length]; omega
  have hnl : news.length = m * i.size := by rw [hsrc.same, hsrc.size]
  have hrl : r'.len = (len + m) * r.sz := by rw [← Row.cs_length, hcs, List.length_append, hol, hnl, hsz, Nat.add_mul]
  have hvone := allOne_vals hone hsrc.same.symm hsrc.rel
  have hne : id ≠ fr := fun e => by rw [e, hfr] at hid; cases hid
  have hufr : (h.upd [(id, .gone), (fr, r')]) fr = some r' := by
    simp only [Heap.upd, lookL_two hne, if_neg (Ne.symm hne), if_true]
  have hfull : vals.take (m * i.size) = vals := List.take_of_length_le (by rw [hsrc.size]; exact Nat.le_refl _)
  by_cases hroom : len + m ≤ c
  · obtain ⟨b, o, sp⟩ := a
    simp at k2 k3
    subst k2; subst k3
    have hmul : (len + m) * r.sz ≤ c * r.sz := Nat.mul_le_mul_right _ hroom
    have hmul2 : (len + m) * r.sz = len * r.sz + m * r.sz := Nat.add_mul _ _ _
    have hvl : vals.length = m * r.sz := by rw [hsrc.size, hsz]
    simp only at k4 k8
    have hst := run_storeCells_at P (ρ id).1 (o + len * i.size) r.elem vals 0 cur w q1 (by rw [← hsz]; omega) hvone
    simp only [Nat.add_zero] at hst
    have hf := hsrc.first w rfl m (Nat.le_refl _)
    rw [hfull] at hf
    have hrun := append_room (P := P) (t := t) (xt := xt) (ty := ty) (a := ⟨(ρ id).1, o, none⟩) (cap := c) ht hxt hd hi (hsrc.len w) hf hroom (by rw [add_none]; exact hst)
    refine ⟨_, _, hrun, ?_⟩
    have hbw := setRow_heap w (ρ id).1 cur (cur.toList.take (o + len * i.size) ++ vals ++ cur.toList.drop (o + len * i.size + vals.length)).toArray r.elem (0, 0) q1
    have harr : (cur.toList.take (o + len * i.size) ++ vals ++ cur.toList.drop (o + len * i.size + vals.length)).toArray.size = cur.size := by
      simp only [List.size_toArray, List.length_append, List.length_take, List.length_drop, Array.length_toList]
      rw [← hsz]; omega
    have hstep := step_swap (fr := fr) (r' := r') (x := ((ρ id).1, o)) (w' := w.setRow (ρ id).1 (cur.toList.take (o + len * i.size) ++ vals ++ cur.toList.drop (o + len * i.size + vals.length)).toArray)
      S hid hl hfr hl' (.inl rfl) (by simpa using S.block_lt hid hl) (by simp) (fun b _ hb => setRow_other w _ b _ hb) rfl rfl rfl (fun F => by
        rw [rowR_cells hl' hm', setLay_same]
        refine ⟨_, by rw [hel', ← hel]; exact hbw, by rw [Row.cs_length, harr, hrl]; omega, fun j av hj => ?_⟩
        simp only [List.getElem?_toArray]
        have hq : len * i.size = len * r.sz := by rw [hsz]
        rw [seg_get _ _ _ _ (by simp only [Array.length_toList]; omega)]
        rw [hcs, app_get _ _ _ _ hol] at hj
        by_cases hjl : j < len * r.sz
        · rw [if_pos hjl, List.getElem?_take, if_pos hjl, List.getElem?_drop] at hj
          rw [if_neg (by omega)]
          have hlen : 0 < len := by
            rcases Nat.eq_zero_or_pos len with h0 | h0
            · subst h0; simp at hjl
            · exact h0
          have ho := k4 (.inl hlen)
          obtain ⟨u, g1, g2⟩ := q3 _ _ hj
          refine ⟨u, ?_, VR_mono S F g2⟩
          rw [ho, Nat.add_assoc]
          simpa using g1
        · rw [if_neg hjl] at hj
          have hlt := (List.getElem?_eq_some_iff.1 hj).1
          rw [hnl, ← hsz] at hlt
          rw [if_pos (by omega)]
          have e1 : o + j - (o + len * i.size) = j - len * r.sz := by omega
          rw [e1]
          have hv2 : vals[j - len * r.sz]? = some vals[j - len * r.sz] := List.getElem?_eq_getElem (by omega)
          exact ⟨_, hv2, VR_mono S F (hsrc.rel _ _ _ hj hv2)⟩)
    refine ⟨_, O, .own (a := ⟨(ρ id).1, o, none⟩) (c := c) (m := cur.size) hufr hl' hm' (by rw [hsz', hrl]; omega) rfl (by rw [setLay_same]) (fun _ => by simp [setLay_same]) hroom k6 ?_ (by rw [hsz']; exact k8) (fun c' hc' => by cases hc'), hstep.1, hstep.2⟩
    rw [setLay_same]
    simp only [blockSize, hbw, harr]
  · obtain ⟨a2, c2, hx2, j1, j2⟩ := sub_cells S hs hid hl hm
    simp only [Value.slice.injEq, Option.some.injEq, true_and] at hx2
    obtain ⟨rfl, rfl⟩ := hx2
    obtain ⟨oldsV, hold⟩ := vals_of (P := P) (ρ := ρ) (h := h) (O := O) (w := w) (size := i.size) (m := len) (c := c) (a := a) (cs := (r.cs.drop off).take (len * r.sz)) (by rw [hol, hsz]) j2
    have hfullo : oldsV.take (len * i.size) = oldsV := List.take_of_length_le (by rw [hold.size]; exact Nat.le_refl _)
    have hf := hsrc.first w.drew rfl m (Nat.le_refl _)
    rw [hfull] at hf
    have hfo := hold.first w.drew rfl len (Nat.le_refl _)
    rw [hfullo] at hfo
    have hrun := append_more (P := P) (t := t) (xt := xt) (ty := ty) ht hxt hd hi hz (hsrc.len w) hf hfo (by omega) hn hb
    refine ⟨_, _, hrun, ?_⟩
    have hge := grownCap_ge w (len + m) c e
    have hcm : grownCap w (len + m) c e ≤ maxLen := grownCap_le_maxLen w (len + m) c e (by simp only [maxLen]; omega)
    have hasz : (oldsV.toArray ++ vals.toArray ++ Builtin.zeroCells z.cells (grownCap w (len + m) c e - (len + m))).size = grownCap w (len + m) c e * i.size := by
      simp only [Array.size_append, List.size_toArray, size_zeroCells, hzs, hold.size, hsrc.size, ← Nat.add_mul]
      congr 1
      omega
    have hnewb : (w.drew.alloc (.cells (oldsV.toArray ++ vals.toArray ++ Builtin.zeroCells z.cells (grownCap w (len + m) c e - (len + m))) e)).heap[w.heap.size]? =
        some (.cells (oldsV.toArray ++ vals.toArray ++ Builtin.zeroCells z.cells (grownCap w (len + m) c e - (len + m))) e (0, 0)) := heap_alloc_new w.drew _
    have hle : (len + m) * i.size ≤ grownCap w (len + m) c e * i.size := Nat.mul_le_mul_right _ hge
    have hstep := step_swap (fr := fr) (r' := r') (x := (w.heap.size, 0)) (w' := w.drew.alloc (.cells (oldsV.toArray ++ vals.toArray ++ Builtin.zeroCells z.cells (grownCap w (len + m) c e - (len + m))) e))
      S hid hl hfr hl' (.inr (Nat.le_refl _)) (by simp) (by simp) (fun b hb _ => heap_alloc_old w.drew _ b hb) rfl rfl rfl (fun F => by
        rw [rowR_cells hl' hm', setLay_same]
        refine ⟨_, by rw [hel']; exact hnewb, by rw [Row.cs_length, hasz, hrl, hsz]; omega, fun j av hj => ?_⟩
        rw [hcs, app_get _ _ _ _ hol] at hj
        simp only [Nat.zero_add]
        rw [← Array.getElem?_toList]
        simp only [Array.toList_append, List.append_assoc]
        have hlo : oldsV.length = len * r.sz := by rw [hold.size, hsz]
        rw [app_get _ _ _ _ hlo]
        by_cases hjl : j < len * r.sz
        · rw [if_pos hjl] at hj ⊢
          have hv2 : oldsV[j]? = some oldsV[j] := List.getElem?_eq_getElem (by omega)
          exact ⟨_, hv2, VR_mono S F (hold.rel _ _ _ hj hv2)⟩
        · rw [if_neg hjl] at hj ⊢
          have hlt := (List.getElem?_eq_some_iff.1 hj).1
          have hlt' : j - len * r.sz < vals.length := by rw [← hsrc.same]; exact hlt
          rw [List.getElem?_append_left hlt']
          have hv2 : vals[j - len * r.sz]? = some vals[j - len * r.sz] := List.getElem?_eq_getElem hlt'
          exact ⟨_, hv2, VR_mono S F (hsrc.rel _ _ _ hj hv2)⟩)
    refine ⟨_, O, .own (a := ⟨w.heap.size, 0, none⟩) (c := grownCap w (len + m) c e) (m := grownCap w (len + m) c e * i.size) hufr hl' hm' (by rw [hsz', hrl]; omega) rfl (by rw [setLay_same]) (fun _ => by simp [setLay_same]) hge
      (by simp only [maxLen] at hcm; omega) ?_ (by rw [hsz', hsz]; simp) (fun c' hc' => by cases hc'), hstep.1, hstep.2⟩
    rw [setLay_same]
    simp only [blockSize, hnewb, hasz]

/-- 'append' onto nil. -/
theorem append_nil {t xt ty e : TypeId} {dx : TypeDesc} {i : TypeInfo} {z : Value} {fr m : Nat} {r' : Row} {x : Value} {news : List AV} {vals : List Value}
    (S : Sim G ρ h O w) (hfr : h fr = none)
    (ht : P.underlying t = some (.slice e)) (hxt : P.underlying xt = some dx) (hd : (∃ e', dx = .slice e') ∨ dx = .string) (hi : P.info? e = some i) (hz : i.zero = some z) (hzs : z.cells.size = i.size)
    (hsrc : Src P ρ h O w i.size x m news vals) (hl' : r'.live = true) (hm' : r'.isMap = false) (hsz' : r'.sz = i.size) (hel' : r'.elem = e) (hcs : r'.cs = news)
    (h0 : 0 < m) (hn : m ≤ 140737488355328) (hb : m * i.bytes ≤ 140737488355328) :
    ∃ y w', (Builtin.append_ #[t, xt] ty #[.slice none 0 0, x]).run P w = .ok y w' ∧ Post G ρ h O w (.own fr 0 m none) [(fr, r')] y w' := by
  have hnl : news.length = m * i.size := by rw [hsrc.same, hsrc.size]
  have hrl : r'.len = m * i.size := by rw [← Row.cs_length, hcs, hnl]
  have hfull : vals.take (m * i.size) = vals := List.take_of_length_le (by rw [hsrc.size]; exact Nat.le_refl _)
  have hf := hsrc.first w.drew rfl m (Nat.le_refl _)
  rw [hfull] at hf
  have hrun := append_more (P := P) (t := t) (xt := xt) (ty := ty) (base := none) (len := 0) (cap := 0) (olds := []) ht hxt hd hi hz (hsrc.len w) hf (by simp [Builtin.firstCells]) (by omega) (by omega) (by simpa using hb)
  simp only [Nat.zero_add] at hrun
  refine ⟨_, _, hrun, ?_⟩
  have hge := grownCap_ge w m 0 e
  have hcm : grownCap w m 0 e ≤ maxLen := grownCap_le_maxLen w m 0 e (by simp only [maxLen]; omega)
  have hasz : (([] : List Value).toArray ++ vals.toArray ++ Builtin.zeroCells z.cells (grownCap w m 0 e - m)).size = grownCap w m 0 e * i.size := by
    simp only [Array.size_append, List.size_toArray, List.length_nil, size_zeroCells, hzs, hsrc.size, ← Nat.add_mul, Nat.zero_add]
    congr 1
    omega
  have hle : m * i.size ≤ grownCap w m 0 e * i.size := Nat.mul_le_mul_right _ hge
  refine new_own (r := r') (cur := ([] : List Value).toArray ++ vals.toArray ++ Builtin.zeroCells z.cells (grownCap w m 0 e - m)) S hfr hl' hm' (by rw [hasz, hrl]; exact hle) (fun j a hj => ?_) (by rw [hel']; rfl) rfl rfl rfl
    (by rw [hsz', hrl]; exact Nat.le_refl _) hge (by simp only [maxLen] at hcm; omega) (by rw [hasz, hsz']; exact Nat.le_refl _) (fun c' hc' => by cases hc')
  rw [hcs] at hj
  have hlt := (List.getElem?_eq_some_iff.1 hj).1
  have hlt' : j < vals.length := by rw [← hsrc.same]; exact hlt
  have hv2 : vals[j]? = some vals[j] := List.getElem?_eq_getElem hlt'
  refine ⟨vals[j], ?_, hsrc.rel _ _ _ hj hv2⟩
  rw [← Array.getElem?_toList]
  simp only [Array.toList_append, List.nil_append]
  rw [List.getElem?_append_left (by simpa using hlt')]
  exact hv2

/-- 'append' of nothing onto nil. -/
theorem append_nil0 {t xt ty e : TypeId} {dx : TypeDesc} {i : TypeInfo} {x : Value} {news : List AV} {vals : List Value}
    (ht : P.underlying t = some (.slice e)) (hxt : P.underlying xt = some dx) (hd : (∃ e', dx = .slice e') ∨ dx = .string) (hi : P.info? e = some i) (hsrc : Src P ρ h O w i.size x 0 news vals) :
    (Builtin.append_ #[t, xt] ty #[.slice none 0 0, x]).run P w = .ok (.slice none 0 0) w := by
  have hf := hsrc.first w rfl 0 (Nat.le_refl _)
  simp only [Nat.zero_mul, List.take_zero] at hf
  rcases hd with ⟨e', rfl⟩ | rfl
  · simp [Builtin.append_, run_underlying ht, run_underlying hxt, sizeOf, typeInfo, hi, hsrc.len w, hf]
  · simp [Builtin.append_, run_underlying ht, run_underlying hxt, sizeOf, typeInfo, hi, hsrc.len w, hf]

theorem append_sound {t xt ty : TypeId} {s x : AV} {sv xv : Value} {fr : Nat} {bit : Option Bool} {v : AV} {us : List (Nat × Row)} {c : List Prop} (S : Sim G ρ h O w) (hsub : ∀ id r, hr id = some r → h id = some r)
    (hfr : h fr = none) (hs : VR ρ h O w s sv) (hx : VR ρ h O w x xv) (he : appendE P t xt s x hr fr bit = some (v, us, c)) (hC : AllP c) :
    ∃ y w', (Builtin.append_ #[t, xt] ty #[sv, xv]).run P w = .ok y w' ∧ Post G ρ h O w v us y w' := by
  unfold appendE at he
  split at he
  · rename_i e ht
    cases hdx : appOk P t xt e with
    | false => rw [hdx] at he; simp at he
    | true =>
    rw [hdx] at he
    simp only [cond_true] at he
    obtain ⟨dx, hxt, hd⟩ : ∃ dx, P.underlying xt = some dx ∧ ((∃ e', dx = .slice e') ∨ dx = .string) := by
      unfold appOk at hdx
      split at hdx
      · rename_i e' hq; exact ⟨_, hq, .inl ⟨e', rfl⟩⟩
      · rename_i hq; exact ⟨_, hq, .inr rfl⟩
      · cases hdx
    split at he
    · rename_i i hi
      cases hb : isU8 P e with
      | true =>
        simp only [hb, cond_true] at he
        obtain ⟨_, i', hi', s1, s2, s3⟩ := isU8_info hb
        rw [hi] at hi'
        cases hi'
        split at he
        · rename_i news hnews
          obtain ⟨vals, hsrc⟩ := srcB_sound (P := P) S hsub hx hnews
          rw [← s1] at hsrc
          split at he
          · rename_i id off len cap
            split at he
            · rename_i e' bs hh
              cases hee : Nat.beq e e' with
              | false => simp [hee] at he
              | true =>
              have e0 : e = e' := Nat.eq_of_beq_eq_true hee
              subst e0
              simp only [hee, cond_true, Option.some.injEq, Prod.mk.injEq] at he
              obtain ⟨rfl, rfl, rfl⟩ := he
              have hid := hsub _ _ hh
              exact append_own (r := .bytes e bs) (r' := .bytes e ((bs.drop off).take len ++ news)) S hid rfl rfl hfr hs ht hxt hd hi s3 (by rw [s1]; rfl) (by rw [s1]; rfl) rfl hsrc (allOne_u8 _) (by omega) rfl rfl rfl rfl
                (by simp [Row.cs, Row.sz, List.map_drop, List.map_take]) hC.1 (by rw [s2]; have := hC.1; omega)
            · cases he
          · have hx := VR_lit hs
            subst hx
            split at he
            · simp only [Option.some.injEq, Prod.mk.injEq] at he
              obtain ⟨rfl, rfl, rfl⟩ := he
              exact append_nil (r' := .bytes e news) S hfr ht hxt hd hi s3 (by rw [s1]; rfl) hsrc rfl rfl (by rw [s1]; rfl) rfl rfl hC.1.1 hC.1.2 (by rw [s2]; have := hC.1.2; omega)
            · simp only [Option.some.injEq, Prod.mk.injEq] at he
              obtain ⟨rfl, rfl, rfl⟩ := he
              have hm0 : news.length = 0 := hC.1
              rw [hm0] at hsrc
              exact ⟨_, w, append_nil0 ht hxt hd hi hsrc, post_pure S (VR.ofLit _)⟩
            · cases he
          · cases he
        · cases he
      | false =>
        simp only [hb, cond_false] at he
        split at he
        · rename_i z hz
          cases hb2 : (Nat.beq z.cells.size i.size && Nat.ble 1 i.size) with
          | false => simp [hb2] at he
          | true =>
          simp only [hb2, cond_true] at he
          simp only [Bool.and_eq_true] at hb2
          have q1 : z.cells.size = i.size := Nat.eq_of_beq_eq_true hb2.1
          have q2 : 1 ≤ i.size := Nat.le_of_ble_eq_true hb2.2
          split at he
          · rename_i m news hnews
            obtain ⟨vals, hsrc⟩ := srcC_sound (P := P) S hsub hx hnews q2
            split at he
            · rename_i id off len cap
              split at he
              · rename_i e' sz cs hh
                cases hee : (Nat.beq e e' && Nat.beq sz i.size) with
                | false => simp [hee] at he
                | true =>
                simp only [hee, cond_true, Option.some.injEq, Prod.mk.injEq] at he
                obtain ⟨rfl, rfl, rfl⟩ := he
                simp only [Bool.and_eq_true] at hee
                have e0 : e = e' := Nat.eq_of_beq_eq_true hee.1
                have e1 : sz = i.size := Nat.eq_of_beq_eq_true hee.2
                subst e0
                have hid := hsub _ _ hh
                obtain ⟨g1, g2, g3⟩ := hC.1
                exact append_own (r := .cells e sz cs) (r' := .cells e sz ((cs.drop off).take (len * sz) ++ news)) S hid rfl rfl hfr hs ht hxt hd hi hz q1 e1 rfl hsrc g3 q2 rfl rfl rfl rfl rfl g1 g2
              · cases he
            · have hx := VR_lit hs
              subst hx
              split at he
              · simp only [Option.some.injEq, Prod.mk.injEq] at he
                obtain ⟨rfl, rfl, rfl⟩ := he
                obtain ⟨g1, g2, g3, g4⟩ := hC.1
                exact append_nil (r' := .cells e i.size news) S hfr ht hxt hd hi hz q1 hsrc rfl rfl rfl rfl rfl g1 g2 g3
              · simp only [Option.some.injEq, Prod.mk.injEq] at he
                obtain ⟨rfl, rfl, rfl⟩ := he
                have hm0 : m = 0 := hC.1
                subst hm0
                exact ⟨_, w, append_nil0 ht hxt hd hi hsrc, post_pure S (VR.ofLit _)⟩
              · cases he
            · cases he
          · cases he
        · cases he
    · cases he
  · cases he
end
end Go.Ax
