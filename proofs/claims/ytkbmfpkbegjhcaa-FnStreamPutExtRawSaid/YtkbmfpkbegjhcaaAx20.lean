/-
  An abstract machine for Go functions, parts 12 to 20.
-/
import Derived.Test.YtkbmfpkbegjhcaaAx11
import Derived.Scope
import Derived.LoopN
/-
  An abstract machine for Go functions (part 12): append, copy, slice literals.
-/
set_option linter.unusedVariables false
set_option linter.unusedSimpArgs false
namespace Go.Ax

section
variable {P : Program} {G : Env} {ρ : Lay} {h hr : Heap} {O : Nat → Prop} {w : World}

theorem allOne_u8 : ∀ bs : List UInt8, allOne (bs.map u8) = true
  | [] => rfl
  | b :: bs => by simp [allOne, u8, AV.one, allOne_u8 bs]

theorem app_get {α : Type} (a b : List α) (n j : Nat) (hn : a.length = n) : (a ++ b)[j]? = if j < n then a[j]? else b[j - n]? := by
  subst hn
  by_cases h : j < a.length
  · rw [if_pos h, List.getElem?_append_left h]
  · rw [if_neg h, List.getElem?_append_right (by omega)]

/-- 'append' onto a slice of an own row. -/
theorem append_own {t xt ty e : TypeId} {dx : TypeDesc} {i : TypeInfo} {z : Value} {id fr off len m : Nat} {cap : Option Nat} {r r' : Row} {s x : Value} {news : List AV} {vals : List Value}
    (S : Sim G ρ h O w) (hid : h id = some r) (hl : r.live = true) (hm : r.isMap = false) (hfr : h fr = none) (hs : VR ρ h O w (.own id off len cap) s)
    (ht : P.underlying t = some (.slice e)) (hxt : P.underlying xt = some dx) (hd : (∃ e', dx = .slice e') ∨ dx = .string) (hi : P.info? e = some i) (hz : i.zero = some z) (hzs : z.cells.size = i.size)
    (hsz : r.sz = i.size) (hel : r.elem = e) (hsrc : Src P ρ h O w i.size x m news vals) (hone : allOne news = true) (hpos : 1 ≤ i.size)
    (hl' : r'.live = true) (hm' : r'.isMap = false) (hsz' : r'.sz = r.sz) (hel' : r'.elem = e) (hcs : r'.cs = (r.cs.drop off).take (len * r.sz) ++ news)
    (hn : len + m ≤ 140737488355328) (hb : (len + m) * i.bytes ≤ 140737488355328) :
    ∃ y w', (Builtin.append_ #[t, xt] ty #[s, x]).run P w = .ok y w' ∧ Post G ρ h O w (.own fr 0 (len + m) none) [(id, .gone), (fr, r')] y w' := by
  obtain ⟨a, c, m0, rfl, k1, k2, k3, k4, k5, k6, k7, k8, k9⟩ := VR_own hs hid hl
  obtain ⟨cur, q1, q2, q3⟩ := row_cells S hid hl hm
  have hm0 : m0 = cur.size := by simp [blockSize, q1] at k7; exact k7.symm
  subst hm0
  have hol : ((r.cs.drop off).take (len * r.sz)).length = len * r.sz := by simp [Row.cs_length]; omega
  have hnl : news.length = m * i.size := by rw [hsrc.same, hsrc.size]
  have hrl : r'.len = (len + m) * r.sz := by rw [← Row.cs_length, hcs, List.length_append, hol, hnl, hsz, Nat.add_mul]
  have hvone := allOne_vals hone hsrc.same.symm hsrc.rel
  have hne : id ≠ fr := fun e => by rw [e, hfr] at hid; cases hid
  have hufr : (h.upd [(id, .gone), (fr, r')]) fr = some r' := by
    simp only [Heap.upd, lookL_two hne, if_neg (Ne.symm hne), if_true]
  have hfull : vals.take (m * i.size) = vals := List.take_of_length_le (by rw [hsrc.size]; exact Nat.le_refl _)
  by_cases hroom : len + m ≤ c
  · obtain ⟨b, o, sp⟩ := a
    simp at k2 k3
    subst k2; subst k3
    have hmul : (len + m) * r.sz ≤ c * r.sz := Nat.mul_le_mul_right _ hroom
    have hmul2 : (len + m) * r.sz = len * r.sz + m * r.sz := Nat.add_mul _ _ _
    have hvl : vals.length = m * r.sz := by rw [hsrc.size, hsz]
    simp only at k4 k8
    have hst := run_storeCells_at P (ρ id).1 (o + len * i.size) r.elem vals 0 cur w q1 (by rw [← hsz]; omega) hvone
    simp only [Nat.add_zero] at hst
    have hf := hsrc.first w rfl m (Nat.le_refl _)
    rw [hfull] at hf
    have hrun := append_room (P := P) (t := t) (xt := xt) (ty := ty) (a := ⟨(ρ id).1, o, none⟩) (cap := c) ht hxt hd hi (hsrc.len w) hf hroom (by rw [add_none]; exact hst)
    refine ⟨_, _, hrun, ?_⟩
    have hbw := setRow_heap w (ρ id).1 cur (cur.toList.take (o + len * i.size) ++ vals ++ cur.toList.drop (o + len * i.size + vals.length)).toArray r.elem (0, 0) q1
    have harr : (cur.toList.take (o + len * i.size) ++ vals ++ cur.toList.drop (o + len * i.size + vals.length)).toArray.size = cur.size := by
      simp only [List.size_toArray, List.length_append, List.length_take, List.length_drop, Array.length_toList]
      rw [← hsz]; omega
    have hstep := step_swap (fr := fr) (r' := r') (x := ((ρ id).1, o)) (w' := w.setRow (ρ id).1 (cur.toList.take (o + len * i.size) ++ vals ++ cur.toList.drop (o + len * i.size + vals.length)).toArray)
      S hid hl hfr hl' (.inl rfl) (by simpa using S.block_lt hid hl) (by simp) (fun b _ hb => setRow_other w _ b _ hb) rfl rfl rfl (fun F => by
        rw [rowR_cells hl' hm', setLay_same]
        refine ⟨_, by rw [hel', ← hel]; exact hbw, by rw [Row.cs_length, harr, hrl]; omega, fun j av hj => ?_⟩
        simp only [List.getElem?_toArray]
        have hq : len * i.size = len * r.sz := by rw [hsz]
        rw [seg_get _ _ _ _ (by simp only [Array.length_toList]; omega)]
        rw [hcs, app_get _ _ _ _ hol] at hj
        by_cases hjl : j < len * r.sz
        · rw [if_pos hjl, List.getElem?_take, if_pos hjl, List.getElem?_drop] at hj
          rw [if_neg (by omega)]
          have hlen : 0 < len := by
            rcases Nat.eq_zero_or_pos len with h0 | h0
            · subst h0; simp at hjl
            · exact h0
          have ho := k4 (.inl hlen)
          obtain ⟨u, g1, g2⟩ := q3 _ _ hj
          refine ⟨u, ?_, VR_mono S F g2⟩
          rw [ho, Nat.add_assoc]
          simpa using g1
        · rw [if_neg hjl] at hj
          have hlt := (List.getElem?_eq_some_iff.1 hj).1
          rw [hnl, ← hsz] at hlt
          rw [if_pos (by omega)]
          have e1 : o + j - (o + len * i.size) = j - len * r.sz := by omega
          rw [e1]
          have hv2 : vals[j - len * r.sz]? = some vals[j - len * r.sz] := List.getElem?_eq_getElem (by omega)
          exact ⟨_, hv2, VR_mono S F (hsrc.rel _ _ _ hj hv2)⟩)
    refine ⟨_, O, .own (a := ⟨(ρ id).1, o, none⟩) (c := c) (m := cur.size) hufr hl' hm' (by rw [hsz', hrl]; omega) rfl (by rw [setLay_same]) (fun _ => by simp [setLay_same]) hroom k6 ?_ (by rw [hsz']; exact k8) (fun c' hc' => by cases hc'), hstep.1, hstep.2⟩
    rw [setLay_same]
    simp only [blockSize, hbw, harr]
  · obtain ⟨a2, c2, hx2, j1, j2⟩ := sub_cells S hs hid hl hm
    simp only [Value.slice.injEq, Option.some.injEq, true_and] at hx2
    obtain ⟨rfl, rfl⟩ := hx2
    obtain ⟨oldsV, hold⟩ := vals_of (P := P) (ρ := ρ) (h := h) (O := O) (w := w) (size := i.size) (m := len) (c := c) (a := a) (cs := (r.cs.drop off).take (len * r.sz)) (by rw [hol, hsz]) j2
    have hfullo : oldsV.take (len * i.size) = oldsV := List.take_of_length_le (by rw [hold.size]; exact Nat.le_refl _)
    have hf := hsrc.first w.drew rfl m (Nat.le_refl _)
    rw [hfull] at hf
    have hfo := hold.first w.drew rfl len (Nat.le_refl _)
    rw [hfullo] at hfo
    have hrun := append_more (P := P) (t := t) (xt := xt) (ty := ty) ht hxt hd hi hz (hsrc.len w) hf hfo (by omega) hn hb
    refine ⟨_, _, hrun, ?_⟩
    have hge := grownCap_ge w (len + m) c e
    have hcm : grownCap w (len + m) c e ≤ maxLen := grownCap_le_maxLen w (len + m) c e (by simp only [maxLen]; omega)
    have hasz : (oldsV.toArray ++ vals.toArray ++ Builtin.zeroCells z.cells (grownCap w (len + m) c e - (len + m))).size = grownCap w (len + m) c e * i.size := by
      simp only [Array.size_append, List.size_toArray, size_zeroCells, hzs, hold.size, hsrc.size, ← Nat.add_mul]
      congr 1
      omega
    have hnewb : (w.drew.alloc (.cells (oldsV.toArray ++ vals.toArray ++ Builtin.zeroCells z.cells (grownCap w (len + m) c e - (len + m))) e)).heap[w.heap.size]? =
        some (.cells (oldsV.toArray ++ vals.toArray ++ Builtin.zeroCells z.cells (grownCap w (len + m) c e - (len + m))) e (0, 0)) := heap_alloc_new w.drew _
    have hle : (len + m) * i.size ≤ grownCap w (len + m) c e * i.size := Nat.mul_le_mul_right _ hge
    have hstep := step_swap (fr := fr) (r' := r') (x := (w.heap.size, 0)) (w' := w.drew.alloc (.cells (oldsV.toArray ++ vals.toArray ++ Builtin.zeroCells z.cells (grownCap w (len + m) c e - (len + m))) e))
      S hid hl hfr hl' (.inr (Nat.le_refl _)) (by simp) (by simp) (fun b hb _ => heap_alloc_old w.drew _ b hb) rfl rfl rfl (fun F => by
        rw [rowR_cells hl' hm', setLay_same]
        refine ⟨_, by rw [hel']; exact hnewb, by rw [Row.cs_length, hasz, hrl, hsz]; omega, fun j av hj => ?_⟩
        rw [hcs, app_get _ _ _ _ hol] at hj
        simp only [Nat.zero_add]
        rw [← Array.getElem?_toList]
        simp only [Array.toList_append, List.append_assoc]
        have hlo : oldsV.length = len * r.sz := by rw [hold.size, hsz]
        rw [app_get _ _ _ _ hlo]
        by_cases hjl : j < len * r.sz
        · rw [if_pos hjl] at hj ⊢
          have hv2 : oldsV[j]? = some oldsV[j] := List.getElem?_eq_getElem (by omega)
          exact ⟨_, hv2, VR_mono S F (hold.rel _ _ _ hj hv2)⟩
        · rw [if_neg hjl] at hj ⊢
          have hlt := (List.getElem?_eq_some_iff.1 hj).1
          have hlt' : j - len * r.sz < vals.length := by rw [← hsrc.same]; exact hlt
          rw [List.getElem?_append_left hlt']
          have hv2 : vals[j - len * r.sz]? = some vals[j - len * r.sz] := List.getElem?_eq_getElem hlt'
          exact ⟨_, hv2, VR_mono S F (hsrc.rel _ _ _ hj hv2)⟩)
    refine ⟨_, O, .own (a := ⟨w.heap.size, 0, none⟩) (c := grownCap w (len + m) c e) (m := grownCap w (len + m) c e * i.size) hufr hl' hm' (by rw [hsz', hrl]; omega) rfl (by rw [setLay_same]) (fun _ => by simp [setLay_same]) hge
      (by simp only [maxLen] at hcm; omega) ?_ (by rw [hsz', hsz]; simp) (fun c' hc' => by cases hc'), hstep.1, hstep.2⟩
    rw [setLay_same]
    simp only [blockSize, hnewb, hasz]

/-- 'append' onto nil. -/
theorem append_nil {t xt ty e : TypeId} {dx : TypeDesc} {i : TypeInfo} {z : Value} {fr m : Nat} {r' : Row} {x : Value} {news : List AV} {vals : List Value}
    (S : Sim G ρ h O w) (hfr : h fr = none)
    (ht : P.underlying t = some (.slice e)) (hxt : P.underlying xt = some dx) (hd : (∃ e', dx = .slice e') ∨ dx = .string) (hi : P.info? e = some i) (hz : i.zero = some z) (hzs : z.cells.size = i.size)
    (hsrc : Src P ρ h O w i.size x m news vals) (hl' : r'.live = true) (hm' : r'.isMap = false) (hsz' : r'.sz = i.size) (hel' : r'.elem = e) (hcs : r'.cs = news)
    (h0 : 0 < m) (hn : m ≤ 140737488355328) (hb : m * i.bytes ≤ 140737488355328) :
    ∃ y w', (Builtin.append_ #[t, xt] ty #[.slice none 0 0, x]).run P w = .ok y w' ∧ Post G ρ h O w (.own fr 0 m none) [(fr, r')] y w' := by
  have hnl : news.length = m * i.size := by rw [hsrc.same, hsrc.size]
  have hrl : r'.len = m * i.size := by rw [← Row.cs_length, hcs, hnl]
  have hfull : vals.take (m * i.size) = vals := List.take_of_length_le (by rw [hsrc.size]; exact Nat.le_refl _)
  have hf := hsrc.first w.drew rfl m (Nat.le_refl _)
  rw [hfull] at hf
  have hrun := append_more (P := P) (t := t) (xt := xt) (ty := ty) (base := none) (len := 0) (cap := 0) (olds := []) ht hxt hd hi hz (hsrc.len w) hf (by simp [Builtin.firstCells]) (by omega) (by omega) (by simpa using hb)
  simp only [Nat.zero_add] at hrun
  refine ⟨_, _, hrun, ?_⟩
  have hge := grownCap_ge w m 0 e
  have hcm : grownCap w m 0 e ≤ maxLen := grownCap_le_maxLen w m 0 e (by simp only [maxLen]; omega)
  have hasz : (([] : List Value).toArray ++ vals.toArray ++ Builtin.zeroCells z.cells (grownCap w m 0 e - m)).size = grownCap w m 0 e * i.size := by
    simp only [Array.size_append, List.size_toArray, List.length_nil, size_zeroCells, hzs, hsrc.size, ← Nat.add_mul, Nat.zero_add]
    congr 1
    omega
  have hle : m * i.size ≤ grownCap w m 0 e * i.size := Nat.mul_le_mul_right _ hge
  refine new_own (r := r') (cur := ([] : List Value).toArray ++ vals.toArray ++ Builtin.zeroCells z.cells (grownCap w m 0 e - m)) S hfr hl' hm' (by rw [hasz, hrl]; exact hle) (fun j a hj => ?_) (by rw [hel']; rfl) rfl rfl rfl
    (by rw [hsz', hrl]; exact Nat.le_refl _) hge (by simp only [maxLen] at hcm; omega) (by rw [hasz, hsz']; exact Nat.le_refl _) (fun c' hc' => by cases hc')
  rw [hcs] at hj
  have hlt := (List.getElem?_eq_some_iff.1 hj).1
  have hlt' : j < vals.length := by rw [← hsrc.same]; exact hlt
  have hv2 : vals[j]? = some vals[j] := List.getElem?_eq_getElem hlt'
  refine ⟨vals[j], ?_, hsrc.rel _ _ _ hj hv2⟩
  rw [← Array.getElem?_toList]
  simp only [Array.toList_append, List.nil_append]
  rw [List.getElem?_append_left (by simpa using hlt')]
  exact hv2

/-- 'append' of nothing onto nil. -/
theorem append_nil0 {t xt ty e : TypeId} {dx : TypeDesc} {i : TypeInfo} {x : Value} {news : List AV} {vals : List Value}
    (ht : P.underlying t = some (.slice e)) (hxt : P.underlying xt = some dx) (hd : (∃ e', dx = .slice e') ∨ dx = .string) (hi : P.info? e = some i) (hsrc : Src P ρ h O w i.size x 0 news vals) :
    (Builtin.append_ #[t, xt] ty #[.slice none 0 0, x]).run P w = .ok (.slice none 0 0) w := by
  have hf := hsrc.first w rfl 0 (Nat.le_refl _)
  simp only [Nat.zero_mul, List.take_zero] at hf
  rcases hd with ⟨e', rfl⟩ | rfl
  · simp [Builtin.append_, run_underlying ht, run_underlying hxt, sizeOf, typeInfo, hi, hsrc.len w, hf]
  · simp [Builtin.append_, run_underlying ht, run_underlying hxt, sizeOf, typeInfo, hi, hsrc.len w, hf]

theorem append_sound {t xt ty : TypeId} {s x : AV} {sv xv : Value} {fr : Nat} {bit : Option Bool} {v : AV} {us : List (Nat × Row)} {c : List Prop} (S : Sim G ρ h O w) (hsub : ∀ id r, hr id = some r → h id = some r)
    (hfr : h fr = none) (hs : VR ρ h O w s sv) (hx : VR ρ h O w x xv) (he : appendE P t xt s x hr fr bit = some (v, us, c)) (hC : AllP c) :
    ∃ y w', (Builtin.append_ #[t, xt] ty #[sv, xv]).run P w = .ok y w' ∧ Post G ρ h O w v us y w' := by
  unfold appendE at he
  split at he
  · rename_i e ht
    cases hdx : appOk P t xt e with
    | false => rw [hdx] at he; simp at he
    | true =>
    rw [hdx] at he
    simp only [cond_true] at he
    obtain ⟨dx, hxt, hd⟩ : ∃ dx, P.underlying xt = some dx ∧ ((∃ e', dx = .slice e') ∨ dx = .string) := by
      unfold appOk at hdx
      split at hdx
      · rename_i e' hq; exact ⟨_, hq, .inl ⟨e', rfl⟩⟩
      · rename_i hq; exact ⟨_, hq, .inr rfl⟩
      · cases hdx
    split at he
    · rename_i i hi
      cases hb : isU8 P e with
      | true =>
        simp only [hb, cond_true] at he
        obtain ⟨_, i', hi', s1, s2, s3⟩ := isU8_info hb
        rw [hi] at hi'
        cases hi'
        split at he
        · rename_i news hnews
          obtain ⟨vals, hsrc⟩ := srcB_sound (P := P) S hsub hx hnews
          rw [← s1] at hsrc
          split at he
          · rename_i id off len cap
            split at he
            · rename_i e' bs hh
              cases hee : Nat.beq e e' with
              | false => simp [hee] at he
              | true =>
              have e0 : e = e' := Nat.eq_of_beq_eq_true hee
              subst e0
              simp only [hee, cond_true, Option.some.injEq, Prod.mk.injEq] at he
              obtain ⟨rfl, rfl, rfl⟩ := he
              have hid := hsub _ _ hh
              exact append_own (r := .bytes e bs) (r' := .bytes e ((bs.drop off).take len ++ news)) S hid rfl rfl hfr hs ht hxt hd hi s3 (by rw [s1]; rfl) (by rw [s1]; rfl) rfl hsrc (allOne_u8 _) (by omega) rfl rfl rfl rfl
                (by simp [Row.cs, Row.sz, List.map_drop, List.map_take]) hC.1 (by rw [s2]; have := hC.1; omega)
            · cases he
          · have hx := VR_lit hs
            subst hx
            split at he
            · simp only [Option.some.injEq, Prod.mk.injEq] at he
              obtain ⟨rfl, rfl, rfl⟩ := he
              exact append_nil (r' := .bytes e news) S hfr ht hxt hd hi s3 (by rw [s1]; rfl) hsrc rfl rfl (by rw [s1]; rfl) rfl rfl hC.1.1 hC.1.2 (by rw [s2]; have := hC.1.2; omega)
            · simp only [Option.some.injEq, Prod.mk.injEq] at he
              obtain ⟨rfl, rfl, rfl⟩ := he
              have hm0 : news.length = 0 := hC.1
              rw [hm0] at hsrc
              exact ⟨_, w, append_nil0 ht hxt hd hi hsrc, post_pure S (VR.ofLit _)⟩
            · cases he
          · cases he
        · cases he
      | false =>
        simp only [hb, cond_false] at he
        split at he
        · rename_i z hz
          cases hb2 : (Nat.beq z.cells.size i.size && Nat.ble 1 i.size) with
          | false => simp [hb2] at he
          | true =>
          simp only [hb2, cond_true] at he
          simp only [Bool.and_eq_true] at hb2
          have q1 : z.cells.size = i.size := Nat.eq_of_beq_eq_true hb2.1
          have q2 : 1 ≤ i.size := Nat.le_of_ble_eq_true hb2.2
          split at he
          · rename_i m news hnews
            obtain ⟨vals, hsrc⟩ := srcC_sound (P := P) S hsub hx hnews q2
            split at he
            · rename_i id off len cap
              split at he
              · rename_i e' sz cs hh
                cases hee : (Nat.beq e e' && Nat.beq sz i.size) with
                | false => simp [hee] at he
                | true =>
                simp only [hee, cond_true, Option.some.injEq, Prod.mk.injEq] at he
                obtain ⟨rfl, rfl, rfl⟩ := he
                simp only [Bool.and_eq_true] at hee
                have e0 : e = e' := Nat.eq_of_beq_eq_true hee.1
                have e1 : sz = i.size := Nat.eq_of_beq_eq_true hee.2
                subst e0
                have hid := hsub _ _ hh
                obtain ⟨g1, g2, g3⟩ := hC.1
                exact append_own (r := .cells e sz cs) (r' := .cells e sz ((cs.drop off).take (len * sz) ++ news)) S hid rfl rfl hfr hs ht hxt hd hi hz q1 e1 rfl hsrc g3 q2 rfl rfl rfl rfl rfl g1 g2
              · cases he
            · have hx := VR_lit hs
              subst hx
              split at he
              · simp only [Option.some.injEq, Prod.mk.injEq] at he
                obtain ⟨rfl, rfl, rfl⟩ := he
                obtain ⟨g1, g2, g3, g4⟩ := hC.1
                exact append_nil (r' := .cells e i.size news) S hfr ht hxt hd hi hz q1 hsrc rfl rfl rfl rfl rfl g1 g2 g3
              · simp only [Option.some.injEq, Prod.mk.injEq] at he
                obtain ⟨rfl, rfl, rfl⟩ := he
                have hm0 : m = 0 := hC.1
                subst hm0
                exact ⟨_, w, append_nil0 ht hxt hd hi hsrc, post_pure S (VR.ofLit _)⟩
              · cases he
            · cases he
          · cases he
        · cases he
    · cases he
  · cases he
end
end Go.Ax
/-
  An abstract machine for Go functions (part 13): copy, slice literals, maps whose keys are whole numbers.
-/
set_option linter.unusedVariables false
set_option linter.unusedSimpArgs false
namespace Go.Ax

section
variable {P : Program} {G : Env} {ρ : Lay} {h hr : Heap} {O : Nat → Prop} {w : World}

theorem copy_sound {t xt ty : TypeId} {d x : AV} {dv xv : Value} {v : AV} {us : List (Nat × Row)} {c : List Prop} (S : Sim G ρ h O w) (hsub : ∀ id r, hr id = some r → h id = some r)
    (hd : VR ρ h O w d dv) (hx : VR ρ h O w x xv) (he : copyE P t xt d x hr = some (v, us, c)) :
    ∃ y w', (Builtin.copy_ #[t, xt] ty #[dv, xv]).run P w = .ok y w' ∧ Post G ρ h O w v us y w' := by
  unfold copyE at he
  split at he
  · rename_i e id off len cap ht
    cases hb : (isU8 P e && copyOk P xt e) with
    | false => simp [hb] at he
    | true =>
    simp only [hb, cond_true] at he
    simp only [Bool.and_eq_true] at hb
    obtain ⟨_, i, hi, s1, s2, s3⟩ := isU8_info hb.1
    have hsz := run_szOf (w := w) (isU8_size hb.1)
    split at he
    · rename_i e' bs src hh hsrc0
      simp only [Option.some.injEq, Prod.mk.injEq] at he
      obtain ⟨rfl, rfl, rfl⟩ := he
      have hid := hsub _ _ hh
      obtain ⟨vals, hsrc⟩ := srcB_sound (P := P) S hsub hx hsrc0
      obtain ⟨a, c', m0, rfl, k1, k2, k3, k4, k5, k6, k7, k8, k9⟩ := VR_own hd hid rfl
      obtain ⟨cur, q1, q2, q3⟩ := row_cells S hid rfl rfl
      simp only [Row.elem, Row.len, Row.cs, Row.sz, Nat.mul_one] at k1 k8 q1 q2 q3
      have hm0 : m0 = cur.size := by simp [blockSize, q1] at k7; exact k7.symm
      subst hm0
      obtain ⟨b, o, sp⟩ := a
      simp at k2 k3
      subst k2; subst k3
      simp only at k4 k8
      have hvl : vals.length = src.length := by rw [hsrc.size]; omega
      have hone : ∀ u ∈ vals, u.oneCell' = true := allOne_vals (allOne_u8 src) hsrc.same.symm hsrc.rel
      have hf := hsrc.first w rfl (min src.length len) (Nat.min_le_left _ _)
      rw [Nat.mul_one] at hf
      have hrun : ∀ w', (storeCells ⟨(ρ id).1, o, none⟩ (vals.take (min src.length len))).run P w = .ok () w' →
          (Builtin.copy_ #[t, xt] ty #[.slice (some ⟨(ρ id).1, o, none⟩) len c', xv]).run P w = .ok (.int .i64 ((min src.length len : Nat) : Int)) w' := fun w' hst => by
        have e1 : Nat.min src.length len = min src.length len := rfl
        simp [Builtin.copy_, run_underlying ht, hsrc.len w, hsz, e1, hf, hst, goInt]
      have hst := run_storeCells_at P (ρ id).1 o e' (vals.take (min src.length len)) 0 cur w q1 (by simp; omega) (fun u hu => hone u (List.mem_of_mem_take hu))
      simp only [Nat.add_zero] at hst
      refine ⟨_, _, hrun _ hst, ρ, O, VR.ofLit _, ?_⟩
      have hN : (vals.take (min src.length len)).length = min src.length len := by simp; omega
      have hNb : (src.take (min src.length len)).length = min src.length len := by simp
      refine write_row (r := .bytes e' bs) (r' := .bytes e' (bs.take off ++ src.take (min src.length len) ++ bs.drop (off + min src.length len))) (cur := cur) S hid rfl rfl rfl rfl rfl ?_ rfl q1 ?_ ?_ ?_
      · simp [Row.len]; omega
      · simp only [List.size_toArray, List.length_append, List.length_take, List.length_drop, Array.length_toList]; omega
      · simp only [Row.len, List.size_toArray, List.length_append, List.length_take, List.length_drop, Array.length_toList]; omega
      · intro j av hj
        simp only [List.getElem?_toArray]
        rw [seg_get _ _ _ _ (by rw [hN]; simp only [Array.length_toList]; omega), hN]
        simp only [Row.cs, List.getElem?_map] at hj
        have hj2 : ((bs.take off ++ src.take (min src.length len) ++ bs.drop (off + (src.take (min src.length len)).length))[j]?).map u8 = some av := by rw [hNb]; exact hj
        rw [seg_get _ _ _ _ (by rw [hNb]; omega), hNb] at hj2
        by_cases hin : off ≤ j ∧ j < off + min src.length len
        · rw [if_pos hin, List.getElem?_take, if_pos (by omega)] at hj2
          have ho := k4 (.inl (by omega))
          rw [if_pos (by omega), List.getElem?_take, if_pos (by omega)]
          have e1 : (ρ id).2 + j - o = j - off := by omega
          rw [e1]
          have hlt : j - off < vals.length := by omega
          have hv2 : vals[j - off]? = some vals[j - off] := List.getElem?_eq_getElem hlt
          exact ⟨_, hv2, hsrc.rel _ _ _ (by rw [List.getElem?_map]; exact hj2) hv2⟩
        · rw [if_neg hin] at hj2
          have hout : ¬ (o ≤ (ρ id).2 + j ∧ (ρ id).2 + j < o + min src.length len) := by
            intro hc
            have ho := k4 (.inl (by omega))
            omega
          rw [if_neg hout]
          obtain ⟨u, g1, g2⟩ := q3 j av (by rw [List.getElem?_map]; exact hj2)
          exact ⟨u, by simpa using g1, g2⟩
    · rename_i e' cs src hh hsrc0
      simp only [Option.some.injEq, Prod.mk.injEq] at he
      obtain ⟨rfl, rfl, rfl⟩ := he
      have hid := hsub _ _ hh
      obtain ⟨vals, hsrc⟩ := srcB_sound (P := P) S hsub hx hsrc0
      obtain ⟨a, c', m0, rfl, k1, k2, k3, k4, k5, k6, k7, k8, k9⟩ := VR_own hd hid rfl
      obtain ⟨cur, q1, q2, q3⟩ := row_cells S hid rfl rfl
      simp only [Row.elem, Row.len, Row.cs, Row.sz, Nat.mul_one] at k1 k8 q1 q2 q3
      have hm0 : m0 = cur.size := by simp [blockSize, q1] at k7; exact k7.symm
      subst hm0
      obtain ⟨b, o, sp⟩ := a
      simp at k2 k3
      subst k2; subst k3
      simp only at k4 k8
      have hvl : vals.length = src.length := by rw [hsrc.size]; omega
      have hone : ∀ u ∈ vals, u.oneCell' = true := allOne_vals (allOne_u8 src) hsrc.same.symm hsrc.rel
      have hf := hsrc.first w rfl (min src.length len) (Nat.min_le_left _ _)
      rw [Nat.mul_one] at hf
      have hrun : ∀ w', (storeCells ⟨(ρ id).1, o, none⟩ (vals.take (min src.length len))).run P w = .ok () w' →
          (Builtin.copy_ #[t, xt] ty #[.slice (some ⟨(ρ id).1, o, none⟩) len c', xv]).run P w = .ok (.int .i64 ((min src.length len : Nat) : Int)) w' := fun w' hst => by
        have e1 : Nat.min src.length len = min src.length len := rfl
        simp [Builtin.copy_, run_underlying ht, hsrc.len w, hsz, e1, hf, hst, goInt]
      have hst := run_storeCells_at P (ρ id).1 o e' (vals.take (min src.length len)) 0 cur w q1 (by simp; omega) (fun u hu => hone u (List.mem_of_mem_take hu))
      simp only [Nat.add_zero] at hst
      refine ⟨_, _, hrun _ hst, ρ, O, VR.ofLit _, ?_⟩
      have hN : (vals.take (min src.length len)).length = min src.length len := by simp; omega
      have hNb : (src.take (min src.length len)).length = min src.length len := by simp
      refine write_row (r := .cells e' 1 cs) (r' := .cells e' 1 (cs.take off ++ (src.take (min src.length len)).map u8 ++ cs.drop (off + min src.length len))) (cur := cur) S hid rfl rfl rfl rfl rfl ?_ rfl q1 ?_ ?_ ?_
      · simp [Row.len]; omega
      · simp only [List.size_toArray, List.length_append, List.length_take, List.length_drop, Array.length_toList]; omega
      · simp only [Row.len, List.size_toArray, List.length_append, List.length_map, List.length_take, List.length_drop, Array.length_toList]; omega
      · intro j av hj
        simp only [List.getElem?_toArray]
        rw [seg_get _ _ _ _ (by rw [hN]; simp only [Array.length_toList]; omega), hN]
        simp only [Row.cs] at hj
        have hNc : ((src.take (min src.length len)).map u8).length = min src.length len := by simp
        have hj2 : (cs.take off ++ (src.take (min src.length len)).map u8 ++ cs.drop (off + ((src.take (min src.length len)).map u8).length))[j]? = some av := by rw [hNc]; exact hj
        rw [seg_get _ _ _ _ (by rw [hNc]; omega), hNc] at hj2
        by_cases hin : off ≤ j ∧ j < off + min src.length len
        · rw [if_pos hin] at hj2
          have ho := k4 (.inl (by omega))
          rw [if_pos (by omega), List.getElem?_take, if_pos (by omega)]
          have e1 : (ρ id).2 + j - o = j - off := by omega
          rw [e1]
          have hlt : j - off < vals.length := by omega
          have hv2 : vals[j - off]? = some vals[j - off] := List.getElem?_eq_getElem hlt
          rw [List.getElem?_map, List.getElem?_take, if_pos (by omega)] at hj2
          exact ⟨_, hv2, hsrc.rel _ _ _ (by rw [List.getElem?_map]; exact hj2) hv2⟩
        · rw [if_neg hin] at hj2
          have hout : ¬ (o ≤ (ρ id).2 + j ∧ (ρ id).2 + j < o + min src.length len) := by
            intro hc
            have ho := k4 (.inl (by omega))
            omega
          rw [if_neg hout]
          obtain ⟨u, g1, g2⟩ := q3 j av hj2
          exact ⟨u, by simpa using g1, g2⟩
    · cases he
  · rename_i e ht
    have hdv := VR_lit hd
    subst hdv
    cases hb : (isU8 P e && copyOk P xt e) with
    | false => simp [hb] at he
    | true =>
    simp only [hb, cond_true] at he
    split at he
    · rename_i src hsrc0
      simp only [Option.some.injEq, Prod.mk.injEq] at he
      obtain ⟨rfl, rfl, rfl⟩ := he
      simp only [Bool.and_eq_true] at hb
      obtain ⟨vals, hsrc⟩ := srcB_sound (P := P) S hsub hx hsrc0
      have hsz := run_szOf (w := w) (isU8_size hb.1)
      have hf := hsrc.first w rfl 0 (Nat.zero_le _)
      refine ⟨.int .i64 0, w, ?_, post_pure S (VR.ofLit _)⟩
      have e2 : (Builtin.lenOf (.slice none 0 0)).run P w = .ok 0 w := rfl
      simp [Builtin.copy_, run_underlying ht, hsrc.len w, e2, hsz, hf, goInt]
    · cases he
  · cases he

theorem freeze_heap (w : World) (b n k : Nat) (cur : Array Value) (e : TypeId) (hb : w.heap[b]? = some (.cells cur e (0, 0))) (hk : k ≠ 0) :
    (w.freeze ⟨b, n, none⟩ k).heap[b]? = some (.cells cur e (n, n + k)) := by
  have hlt : b < w.heap.size := (Array.getElem?_eq_some_iff.1 hb).1
  have h2 := (Array.getElem?_eq_some_iff.1 hb).2
  simp [World.freeze, hk, Array.getElem?_modify, hb]

theorem freeze_other (w : World) (b n k b' : Nat) (hb : b' ≠ b) : (w.freeze ⟨b, n, none⟩ k).heap[b']? = w.heap[b']? := by
  simp only [World.freeze]
  split
  · rfl
  · simp [Array.getElem?_modify, Ne.symm hb]

theorem freeze_size (w : World) (b n k : Nat) : (w.freeze ⟨b, n, none⟩ k).heap.size = w.heap.size := by
  simp only [World.freeze]
  split <;> simp

theorem self_sound {src dst : TypeId} {a : AV} {x : Value} {v : AV} {us : List (Nat × Row)} {c : List Prop} (S : Sim G ρ h O w) (hsub : ∀ id r, hr id = some r → h id = some r)
    (ha : VR ρ h O w a x) (he : selfE P src dst a hr = some (v, us, c)) : ∃ y w', (convert src dst x).run P w = .ok y w' ∧ Post G ρ h O w v us y w' := by
  unfold selfE at he
  split at he
  · rename_i e id off len cap hs
    cases hb : (isU8 P e && Nat.beq src dst) with
    | false => simp [hb] at he
    | true =>
      simp only [hb, cond_true] at he
      simp only [Bool.and_eq_true] at hb
      have hsd : src = dst := Nat.eq_of_beq_eq_true hb.2
      subst hsd
      have hu := isU8_spec hb.1
      split at he
      · rename_i e' bs hh
        simp only [Option.some.injEq, Prod.mk.injEq] at he
        obtain ⟨rfl, rfl, rfl⟩ := he
        have hid := hsub _ _ hh
        obtain ⟨a', c', m, hx, k1, k2, k3, k4, k5, k6, k7, k8, k9⟩ := VR_own ha hid rfl
        obtain ⟨cur, q1, q2, q3⟩ := row_cells S hid rfl rfl
        simp only [Row.elem, Row.len, Row.cs, Row.sz, Nat.mul_one] at k1 k8 q1 q2 q3
        obtain ⟨b, o, sp⟩ := a'
        simp at k2 k3
        subst k2; subst k3; subst hx
        have hmod : ∀ b', b' ≠ (ρ id).1 → (w.freeze ⟨(ρ id).1, cur.size, none⟩ 1).heap[b']? = w.heap[b']? := fun b' hb' => freeze_other w _ _ _ b' hb'
        have hat := freeze_heap w (ρ id).1 cur.size 1 cur e' q1 (by decide)
        have hsh : w.shape? (ρ id).1 = some (e', cur.size) := by simp [World.shape?, q1]
        have hlen : ((bs.drop off).take len).length = len := by simp; omega
        refine ⟨.slice (some ⟨(ρ id).1, o, none⟩) len c', w.freeze ⟨(ρ id).1, cur.size, none⟩ 1, ?_, ?_⟩
        · simp [convert, run_underlying hs, run_underlying hu, markStringish, shape, freeze, Sem.run, hsh]
        · have F : Fr ρ h O w ρ (h.upd [(id, .gone)]) (fun b => O b ∨ b = (ρ id).1) (w.freeze ⟨(ρ id).1, cur.size, none⟩ 1) :=
            { os := by simp [World.freeze], tape := by simp [World.freeze], output := by simp [World.freeze]
              size := by rw [freeze_size]; exact Nat.le_refl _
              keep := fun b hb hn => hmod b (fun e => hn id _ hid rfl e.symm)
              dom := fun j rj hj => by
                by_cases e : j = id
                · subst e; exact ⟨.gone, upd_one_same h _ .gone, fun h => by cases h⟩
                · exact ⟨rj, by rw [upd_one_ne h .gone e]; exact hj, fun hlj => ⟨hlj, rfl, rfl, rfl, Nat.le_refl _, by
                    simp only [blockSize, hmod _ (fun e2 => e (S.inj _ _ _ _ hj hid hlj rfl e2))]⟩⟩
              own := fun j rj hj hlj => by
                by_cases e : j = id
                · subst e; rw [upd_one_same h _ .gone] at hj; cases hj; cases hlj
                · rw [upd_one_ne h .gone e] at hj; exact .inl ⟨j, rj, hj, hlj, rfl⟩
              old := fun _ h => .inl h
              oldnew := fun b hb => hb.elim .inl fun e => .inr (.inl ⟨id, _, hid, rfl, e.symm⟩) }
          refine ⟨ρ, fun b => O b ∨ b = (ρ id).1, ?_, S.step F (fun j rj hj hlj => ?_) (fun i j ri rj hi hj hli hlj hij => ?_) (fun j rj hj hlj hO => ?_) (fun b hb => ?_), F⟩
          · have hv : VR ρ (h.upd [(id, .gone)]) (fun b => O b ∨ b = (ρ id).1) (w.freeze ⟨(ρ id).1, cur.size, none⟩ 1) (.bts ((bs.drop off).take len)) (.slice (some ⟨(ρ id).1, o, none⟩) ((bs.drop off).take len).length c') :=
              .dr (.bts (fun _ => rfl) (fun _ => .inr rfl) (by rw [hlen]; exact k5) k6 fun i b hi => by
                have hlt := (List.getElem?_eq_some_iff.1 hi).1
                rw [hlen] at hlt
                have ho : o = (ρ id).2 + off := k4 (.inl (by omega))
                rw [List.getElem?_take, if_pos hlt, List.getElem?_drop] at hi
                obtain ⟨u, g1, g2⟩ := q3 (off + i) (u8 b) (by rw [List.getElem?_map, hi]; rfl)
                have := VR_lit g2
                subst this
                rw [add_none]
                simp only [World.cell?, hat]
                rw [ho, Nat.add_assoc, g1]
                rfl)
            rw [hlen] at hv
            exact hv
          · have e : j ≠ id := fun e => by subst e; rw [upd_one_same h _ .gone] at hj; cases hj; cases hlj
            rw [upd_one_ne h .gone e] at hj
            exact .inl ⟨hj, rfl, hmod _ (fun e2 => e (S.inj _ _ _ _ hj hid hlj rfl e2))⟩
          · have e1 : i ≠ id := fun e => by subst e; rw [upd_one_same h _ .gone] at hi; cases hi; cases hli
            have e2 : j ≠ id := fun e => by subst e; rw [upd_one_same h _ .gone] at hj; cases hj; cases hlj
            rw [upd_one_ne h .gone e1] at hi
            rw [upd_one_ne h .gone e2] at hj
            exact S.inj i j ri rj hi hj hli hlj hij
          · have e : j ≠ id := fun e => by subst e; rw [upd_one_same h _ .gone] at hj; cases hj; cases hlj
            rw [upd_one_ne h .gone e] at hj
            rcases hO with hO | hO
            · exact S.notO j rj hj hlj hO
            · exact e (S.inj _ _ _ _ hj hid hlj rfl hO)
          · rw [freeze_size]
            rcases hb with hb | hb
            · exact S.lt b hb
            · subst hb; exact S.block_lt hid rfl
      · cases he
    
  · cases he

theorem bytesC_spec : ∀ {cs : List AV} {bs : List UInt8} {c : List Prop}, bytesC cs = some (bs, c) → AllP c → bs.length = cs.length ∧ ∀ (j : Nat) a, (bs.map u8)[j]? = some a → cs[j]? = some a
  | [], bs, c, he, hC => by simp [bytesC] at he; obtain ⟨rfl, rfl⟩ := he; exact ⟨rfl, fun j a h => by simp at h⟩
  | x :: l, bs, c, he, hC => by
    unfold bytesC at he
    split at he
    · rename_i h1; cases h1
    · rename_i n l' h1
      simp only [List.cons.injEq] at h1
      obtain ⟨rfl, rfl⟩ := h1
      split at he
      · rename_i bs' c' h2
        simp only [Option.some.injEq, Prod.mk.injEq] at he
        obtain ⟨rfl, rfl⟩ := he
        obtain ⟨i1, i2⟩ := bytesC_spec h2 hC.2
        obtain ⟨g1, g2⟩ := hC.1
        refine ⟨by simp [i1], fun j a hj => ?_⟩
        cases j with
        | zero =>
          simp at hj ⊢
          subst hj
          have : ((UInt8.ofNat n.toNat).toNat : Int) = n := by simp; omega
          simp [u8]
          simpa using this.symm
        | succ j => exact i2 j a (by simpa using hj)
      · cases he
    · cases he

theorem fillE_length {place : Nat → Option (Nat × Nat)} : ∀ (ps : List (Nat × AV)) (a b : List AV), fillE place a ps = some b → b.length = a.length
  | [], a, b, h => by simp [fillE] at h; rw [h]
  | (i, av) :: ps, a, b, h => by
    simp only [fillE] at h
    split at h
    · rename_i off size vs h1 h2
      cases hc : (Nat.beq vs.length size && Nat.ble (off + size) a.length) with
      | false => simp [hc] at h
      | true =>
        simp only [hc, cond_true] at h
        rw [fillE_length ps _ _ h, length_setL]
    · cases h

theorem buildSlice_run {t e : TypeId} {len size : Nat} {z : Value} {parts : Array (Nat × Value)} {arr : Array Value} (ht : P.underlying t = some (.slice e)) (hsz : szOf P e = some size) (hz : (zeroValue e).run P w = .ok z w)
    (hzs : z.cells.size = size) (hle : len * size ≤ 16777216)
    (hf : Instr.fill (fun i => some (i * size, size)) ((Array.range (len * size)).map (fun j => z.cells[j % z.cells.size]!)) parts.toList = some arr) :
    (Instr.buildSlice t len parts).run P w = .ok (.slice (some ⟨w.heap.size, 0, none⟩) len len) { w with heap := w.heap.push (.cells arr e (0, 0)) } := by
  have h1 : ¬ len * size > 2 ^ 24 := by omega
  by_cases h0 : len * size = 0
  · have hf' : Instr.fill (fun i => some (i * size, size)) ((Array.range (len * size)).map (fun j => (#[] : Array Value)[j % (#[] : Array Value).size]!)) parts.toList = some arr := by
      rw [← hf, h0]; simp [show Array.range 0 = #[] from rfl]
    simp only [Instr.buildSlice, Sem.run_bind, run_underlying ht, Result.andThen_ok, run_szOf (w := w) hsz, if_neg h1, if_pos h0, Sem.run_pure, hf', newRow, run_newObj]
  · simp only [Instr.buildSlice, Sem.run_bind, run_underlying ht, Result.andThen_ok, run_szOf (w := w) hsz, if_neg h1, if_neg h0, Sem.run_pure, hz, hf, newRow, run_newObj]

theorem buildSlice_sound {t : TypeId} {len : Nat} {parts : Array (Nat × Operand)} {f : Operand → AV} {g : Operand → Value} {fr : Nat} {v : AV} {us : List (Nat × Row)} {c : List Prop} (S : Sim G ρ h O w) (hfr : h fr = none)
    (hp : ∀ p ∈ parts.toList, VR ρ h O w (f p.2) (g p.2)) (he : buildSliceE P t len (parts.toList.map fun (i, x) => (i, f x)) fr = some (v, us, c)) (hC : AllP c) :
    ∃ y w', (Instr.buildSlice t len (parts.map fun (i, x) => (i, g x))).run P w = .ok y w' ∧ Post G ρ h O w v us y w' := by
  have hparts : (parts.map fun (i, x) => (i, g x)).toList = parts.toList.map fun (i, x) => (i, g x) := by simp
  unfold buildSliceE at he
  split at he
  · rename_i e ht
    cases hb : isU8 P e with
    | true =>
      simp only [hb, cond_true] at he
      obtain ⟨_, i, hi, s1, s2, s3⟩ := isU8_info hb
      have hzr : (zeroValue e).run P w = .ok (.int .u8 0) w := by simp [zeroValue, typeInfo, hi, s3]
      cases hbl : Nat.ble len 16777216 with
      | false => simp [hbl] at he
      | true =>
      simp only [hbl, cond_true] at he
      have hle : len ≤ 16777216 := Nat.le_of_ble_eq_true hbl
      split at he
      · rename_i cs hfl
        split at he
        · rename_i bs c' hbc
          simp only [Option.some.injEq, Prod.mk.injEq] at he
          obtain ⟨rfl, rfl, rfl⟩ := he
          obtain ⟨b1, b2⟩ := bytesC_spec hbc hC
          have hz : Cells ρ h O w (repL [.lit (.int .u8 0)] len) ((Array.range (len * 1)).map (fun j => ((Value.int .u8 0).cells)[j % ((Value.int .u8 0).cells).size]!)) := made_cells (z := (Value.int .u8 0).cells) rfl (by omega)
          obtain ⟨arr, ha, hA⟩ := fill_sound (g := g) parts.toList _ cs _ hp hz hfl
          have hcl : cs.length = len := by rw [fillE_length _ _ _ hfl, repL_length]; simp
          have hrun := buildSlice_run (P := P) (w := w) (t := t) (len := len) (parts := parts.map fun (i, x) => (i, g x)) ht (isU8_size hb) hzr rfl (by omega) (by rw [hparts]; exact ha)
          refine ⟨_, _, hrun, ?_⟩
          have hal : arr.size = len := by rw [← hA.1, hcl]
          exact new_own (r := .bytes e bs) S hfr rfl rfl (by simp [Row.len, hal, b1, hcl]) (fun j a hj => hA.2 j a (b2 j a hj)) rfl rfl rfl rfl (by simp [Row.sz, Row.len, b1, hcl]) (Nat.le_refl _) (by omega) (by simp [Row.sz, hal]) (fun c' hc' => by simpa using hc')
        · cases he
      · cases he
    | false =>
      simp only [hb, cond_false] at he
      split at he
      · rename_i sz z hsz hz
        obtain ⟨i, zv, hi, hzz, rfl⟩ := zeroCells?_spec hz
        have hzr : (zeroValue e).run P w = .ok zv w := by simp [zeroValue, typeInfo, hi, hzz]
        cases hb2 : (Nat.ble (len * sz) 16777216 && Nat.beq (zv.cells.toList.map AV.lit).length sz && Nat.ble 1 sz) with
        | false => simp only [hb2, cond_false] at he; cases he
        | true =>
        simp only [hb2, cond_true, Option.map_eq_some_iff, Prod.mk.injEq] at he
        obtain ⟨cs, hfl, rfl, rfl, rfl⟩ := he
        simp only [Bool.and_eq_true] at hb2
        have q0 : len * sz ≤ 16777216 := Nat.le_of_ble_eq_true hb2.1.1
        have q1 : zv.cells.size = sz := by have := Nat.eq_of_beq_eq_true hb2.1.2; simpa using this
        have q2 : 1 ≤ sz := Nat.le_of_ble_eq_true hb2.2
        have hz0 : Cells ρ h O w (repL (zv.cells.toList.map .lit) len) ((Array.range (len * sz)).map (fun j => zv.cells[j % zv.cells.size]!)) := made_cells q1 q2
        obtain ⟨arr, ha, hA⟩ := fill_sound (g := g) parts.toList _ cs _ hp hz0 hfl
        have hcl : cs.length = len * sz := by rw [fillE_length _ _ _ hfl, repL_length]; simp [q1]
        have hrun := buildSlice_run (P := P) (w := w) (t := t) (parts := parts.map fun (i, x) => (i, g x)) ht hsz hzr q1 q0 (by rw [hparts]; exact ha)
        refine ⟨_, _, hrun, ?_⟩
        have hal : arr.size = len * sz := by rw [← hA.1, hcl]
        have hlen : len ≤ 16777216 := Nat.le_trans (Nat.le_mul_of_pos_right _ q2) q0
        exact new_own (r := .cells e sz cs) S hfr rfl rfl (by simp [Row.len, hal, hcl]) hA.2 rfl rfl rfl rfl (by simp [Row.sz, Row.len, hcl]) (Nat.le_refl _) (by omega) (by simp [Row.sz, hal]) (fun c' hc' => by simpa using hc')
      · cases he
  · cases he
end
end Go.Ax
/-
  An abstract machine for Go functions (part 14): maps whose keys are whole numbers.
-/
set_option linter.unusedVariables false
set_option linter.unusedSimpArgs false
namespace Go.Ax

section
variable {P : Program} {G : Env} {ρ : Lay} {h hr : Heap} {O : Nat → Prop} {w : World}

theorem makeMap_sound {t : TypeId} {rX : Option Operand} {f : Operand → AV} {g : Operand → Value} {fr : Nat} {v : AV} {us : List (Nat × Row)} {c : List Prop} (S : Sim G ρ h O w) (hfr : h fr = none)
    (he : makeMapE P t (rX.map f) fr = some (v, us, c)) : ∃ y w', (Instr.makeMap t (rX.map g)).run P w = .ok y w' ∧ Post G ρ h O w v us y w' := by
  unfold makeMapE at he
  split at he
  · rename_i kt e hr0 ht
    cases rX with
    | some x => simp at hr0
    | none =>
    split at he
    · rename_i kd hk
      simp only [Option.some.injEq, Prod.mk.injEq] at he
      obtain ⟨rfl, rfl, rfl⟩ := he
      have hb : ({ w with heap := w.heap.push (.map #[] 0) } : World).heap[w.heap.size]? = some (.map #[] 0) := by simp
      have N := step_new (r := .map kd []) (w' := { w with heap := w.heap.push (.map #[] 0) }) S hfr rfl rfl rfl rfl rfl (fun F => by
        refine ⟨#[], 0, by rw [setLay_same]; exact hb, rfl, by simp, fun j n a hj => by simp at hj, fun e he => by simp at he, by simp⟩)
      refine ⟨.map (some w.heap.size), { w with heap := w.heap.push (.map #[] 0) }, by simp [Instr.makeMap], _, O, ?_, N.1, N.2⟩
      have := VR.mp (ρ := setLay ρ fr (w.heap.size, 0)) (O := O) (w := { w with heap := w.heap.push (.map #[] 0) }) (upd_one_same h fr (.map kd [])) rfl
      rw [setLay_same] at this
      exact this
    · cases he
  · cases he

/-- The first entry with a key. -/
theorem firstI_mem : ∀ (es : List (Int × AV)) (n : Int), memI es n = (firstI es n).isSome
  | [], n => rfl
  | (k, a) :: l, n => by
    simp only [memI, firstI]
    cases h : (k == n) <;> simp [firstI_mem l n]

/-- Entries as they lie, in any order. -/
def EntR (ρ : Lay) (h : Heap) (O : Nat → Prop) (w : World) (kd : IntKind) (es : List (Int × AV)) (ents : List MapEntry) : Prop :=
  (∀ (j : Nat) (n : Int) (a : AV), es[j]? = some (n, a) → ∃ e ∈ ents, e.key = .int kd n ∧ VR ρ h O w a e.val) ∧ (∀ e ∈ ents, ∃ n, e.key = .int kd n ∧ memI es n = true) ∧ (ents.map (·.key)).Nodup

theorem firstI_get : ∀ {es : List (Int × AV)} {n : Int} {a : AV}, firstI es n = some a → ∃ j : Nat, es[j]? = some (n, a)
  | [], n, a, h => by simp [firstI] at h
  | (k, b) :: l, n, a, h => by
    simp only [firstI] at h
    cases hk : (k == n) with
    | true =>
      simp only [hk, cond_true, Option.some.injEq] at h
      have : k = n := by simpa using hk
      subst this; subst h
      exact ⟨0, rfl⟩
    | false =>
      simp only [hk, cond_false] at h
      obtain ⟨j, hj⟩ := firstI_get h
      exact ⟨j + 1, by simpa using hj⟩

/-- What is found among entries whose keys are whole numbers: the first that has the key. -/
theorem findNow_list {kd : IntKind} {n : Int} : ∀ (ents : List MapEntry) (i : Nat), (∀ e ∈ ents, ∃ m, e.key = .int kd m) →
    ((∀ e ∈ ents, e.key ≠ .int kd n) ∧ Instr.findNow (.int kd) (.int kd n) ents i = some none) ∨
    ∃ e ∈ ents, e.key = .int kd n ∧ ∃ k, Instr.findNow (.int kd) (.int kd n) ents i = some (some (k, e.val))
  | [], i, _ => .inl ⟨fun e he => by simp at he, rfl⟩
  | e :: ents, i, hk => by
    obtain ⟨m, hm⟩ := hk e (by simp)
    simp only [Instr.findNow, hm, Instr.sameNow, if_true]
    by_cases hmn : m = n
    · subst hmn
      simp only [beq_self_eq_true]
      exact .inr ⟨e, by simp, hm, i, rfl⟩
    · have e2 : (n == m) = false := by simpa using Ne.symm hmn
      simp only [e2]
      rcases findNow_list ents (i + 1) (fun x hx => hk x (List.mem_cons_of_mem _ hx)) with ⟨h1, h2⟩ | ⟨x, h1, h2, k, h3⟩
      · refine .inl ⟨fun x hx => ?_, h2⟩
        rcases List.mem_cons.1 hx with rfl | hx
        · rw [hm]; intro hc; cases hc; exact hmn rfl
        · exact h1 x hx
      · exact .inr ⟨x, List.mem_cons_of_mem _ h1, h2, k, h3⟩

theorem nodup_key : ∀ {ents : List MapEntry} {e e' : MapEntry}, (ents.map (·.key)).Nodup → e ∈ ents → e' ∈ ents → e.key = e'.key → e = e'
  | [], e, e', _, h, _, _ => by simp at h
  | x :: l, e, e', hn, h1, h2, hk => by
    simp only [List.map_cons, List.nodup_cons, List.mem_map, not_exists, not_and] at hn
    rcases List.mem_cons.1 h1 with a1 | a1 <;> rcases List.mem_cons.1 h2 with a2 | a2
    · rw [a1, a2]
    · subst a1; exact absurd hk.symm (hn.1 e' a2)
    · subst a2; exact absurd hk (hn.1 e a1)
    · exact nodup_key hn.2 a1 a2 hk

theorem findNow_sound {kd : IntKind} {n : Int} (es : List (Int × AV)) (ents : List MapEntry) (i : Nat) (hE : EntR ρ h O w kd es ents) :
    (firstI es n = none ∧ Instr.findNow (.int kd) (.int kd n) ents i = some none) ∨ ∃ a k val, firstI es n = some a ∧ Instr.findNow (.int kd) (.int kd n) ents i = some (some (k, val)) ∧ VR ρ h O w a val := by
  obtain ⟨h1, h2, h3⟩ := hE
  rcases findNow_list (n := n) ents i (fun e he => by obtain ⟨m, hm, _⟩ := h2 e he; exact ⟨m, hm⟩) with ⟨q1, q2⟩ | ⟨e, q1, q2, k, q3⟩
  · refine .inl ⟨?_, q2⟩
    cases hf : firstI es n with
    | none => rfl
    | some a =>
      obtain ⟨j, hj⟩ := firstI_get hf
      obtain ⟨e, g1, g2, _⟩ := h1 j n a hj
      exact absurd g2 (q1 e g1)
  · obtain ⟨m, g1, g2⟩ := h2 e q1
    rw [q2] at g1
    cases g1
    rw [firstI_mem] at g2
    cases hf : firstI es n with
    | none => rw [hf] at g2; cases g2
    | some a =>
      obtain ⟨j, hj⟩ := firstI_get hf
      obtain ⟨e', p1, p2, p3⟩ := h1 j n a hj
      have := nodup_key h3 q1 p1 (q2.trans p2.symm)
      subst this
      exact .inr ⟨a, k, e.val, rfl, q3, p3⟩

theorem insI_len (n : Int) (v : AV) : ∀ es, (insI es n v).length = es.length + 1
  | [] => rfl
  | (k, a) :: l => by
    simp only [insI]
    cases decide (n < k) <;> simp [insI_len n v l]

theorem insI_get {n n' : Int} {v a : AV} : ∀ {es : List (Int × AV)} {j : Nat}, (insI es n v)[j]? = some (n', a) → (n' = n ∧ a = v) ∨ ∃ j' : Nat, es[j']? = some (n', a)
  | [], j, hj => by
    cases j with
    | zero => simp [insI] at hj; exact .inl ⟨hj.1.symm, hj.2.symm⟩
    | succ j => simp [insI] at hj
  | (k, b) :: l, j, hj => by
    simp only [insI] at hj
    cases hd : decide (n < k) with
    | true =>
      simp only [hd, cond_true] at hj
      cases j with
      | zero => simp at hj; exact .inl ⟨hj.1.symm, hj.2.symm⟩
      | succ j => exact .inr ⟨j, by simpa using hj⟩
    | false =>
      simp only [hd, cond_false] at hj
      cases j with
      | zero => exact .inr ⟨0, by simpa using hj⟩
      | succ j =>
        rcases insI_get (es := l) (j := j) (by simpa using hj) with h | ⟨j', h⟩
        · exact .inl h
        · exact .inr ⟨j' + 1, by simpa using h⟩

theorem memI_ins {n n' : Int} {v : AV} : ∀ es, memI (insI es n v) n' = (n == n' || memI es n')
  | [] => by simp only [insI, memI]; cases (n == n') <;> rfl
  | (k, a) :: l => by
    simp only [insI]
    cases decide (n < k) with
    | true => simp only [cond_true, memI]; cases (n == n') <;> simp
    | false => simp only [cond_false, memI, memI_ins l]; cases (n == n') <;> cases (k == n') <;> simp

theorem insI_comm {n m : Int} {v u : AV} (hne : n ≠ m) : ∀ es, insI (insI es n v) m u = insI (insI es m u) n v
  | [] => by
    simp only [insI]
    rcases Int.lt_or_gt_of_ne hne with hlt | hgt
    · have e1 : decide (m < n) = false := by simp; omega
      have e2 : decide (n < m) = true := by simp; omega
      simp [e1, e2]
    · have e1 : decide (m < n) = true := by simp; omega
      have e2 : decide (n < m) = false := by simp; omega
      simp [e1, e2]
  | (k, a) :: l => by
    simp only [insI]
    by_cases h1 : n < k <;> by_cases h2 : m < k <;> by_cases h3 : m < n <;> by_cases h4 : n < m <;> first | omega | simp [insI, h1, h2, h3, h4, insI_comm hne l]

theorem checkKey_int {kt : TypeId} {kd k : IntKind} {n : Int} {b : Bool} (hk : P.underlying kt = some (.int kd)) : (Instr.checkKey b 10000 kt (.int k n)).run P w = .ok () w := by
  show (Instr.checkKey b (9999 + 1) kt (.int k n)).run P w = _
  rw [Instr.checkKey]
  simp [run_underlying hk]

theorem map_row (S : Sim G ρ h O w) {id : Nat} {kd : IntKind} {es : List (Int × AV)} (hid : h id = some (.map kd es)) :
    ∃ ents clock, w.heap[(ρ id).1]? = some (.map ents clock) ∧ EntR ρ h O w kd es ents.toList ∧ es.length ≤ 1000000 ∧ ents.size = es.length := by
  obtain ⟨ents, clock, e1, e2, e3, e4, e5, e6⟩ := S.rows _ _ hid
  exact ⟨ents, clock, e1, ⟨e4, e5, e6⟩, e3, e2⟩

theorem VR_mp {id : Nat} {x : Value} {r : Row} (hv : VR ρ h O w (.mp id) x) (hid : h id = some r) (hl : r.live = true) : x = .map (some (ρ id).1) := by
  cases hv with
  | dr hd => cases hd
  | mp h1 h2 => rfl
  | mpGone h1 h2 => rw [hid] at h1; cases h1; rw [hl] at h2; cases h2

theorem insert_sound {t : TypeId} {m k x : AV} {mv kv xv : Value} {v : AV} {us : List (Nat × Row)} {c : List Prop} (S : Sim G ρ h O w) (hsub : ∀ id r, hr id = some r → h id = some r)
    (hm : VR ρ h O w m mv) (hk : VR ρ h O w k kv) (hx : VR ρ h O w x xv) (he : insertE P t m k x hr = some (v, us, c)) (hC : AllP c) :
    ∃ w', (Instr.mapUpdate t mv kv xv).run P w = .ok () w' ∧ Post G ρ h O w v us undef w' := by
  unfold insertE at he
  split at he
  · rename_i kt e id kd n ht
    split at he
    · rename_i kd' kd'' es hkt hh
      split at he
      · rename_i hkk
        obtain ⟨rfl, rfl⟩ := hkk
        cases hmem : memI es n with
        | true => simp [hmem] at he
        | false =>
        simp only [hmem, cond_false, Option.some.injEq, Prod.mk.injEq] at he
        obtain ⟨rfl, rfl, rfl⟩ := he
        have hlen : es.length < 1000000 := hC.1
        have hid := hsub _ _ hh
        have hmv := VR_mp hm hid rfl
        have hkv := VR_lit hk
        subst hmv; subst hkv
        obtain ⟨ents, clock, e1, e2, e3⟩ := map_row S hid
        have hb := S.block_lt hid rfl
        rcases findNow_sound (n := n) es ents.toList 0 e2 with ⟨f1, f2⟩ | ⟨a, k', val, f1, f2, f3⟩
        · refine ⟨{ w with heap := w.heap.setIfInBounds (ρ id).1 (.map (ents.push { key := .int kd n, val := xv, born := clock }) (clock + 1)) }, ?_, ?_⟩
          · simp [Instr.mapUpdate, run_underlying ht, getObj, Sem.run, e1, checkKey_int hkt, Instr.findKey, run_underlying hkt, f2, setObj]
          · have hnew : ({ w with heap := w.heap.setIfInBounds (ρ id).1 (.map (ents.push { key := .int kd n, val := xv, born := clock }) (clock + 1)) } : World).heap[(ρ id).1]? =
                some (.map (ents.push { key := .int kd n, val := xv, born := clock }) (clock + 1)) := by simp [hb]
            have hno : ∀ e ∈ ents.toList, e.key ≠ .int kd n := fun e he hk => by
              obtain ⟨m', g1, g2⟩ := e2.2.1 e he
              rw [hk] at g1
              cases g1
              rw [hmem] at g2
              cases g2
            have W := step_write (r' := .map kd (insI es n x)) (w' := { w with heap := w.heap.setIfInBounds (ρ id).1 (.map (ents.push { key := .int kd n, val := xv, born := clock }) (clock + 1)) })
              S hid rfl rfl rfl rfl (Nat.le_refl _) (fun b hb => by simp [Array.getElem?_setIfInBounds, Ne.symm hb]) (by simp) (by simp only [blockSize, hnew, e1]) rfl rfl rfl (fun F => by
                refine ⟨_, _, hnew, by rw [insI_len]; simp [e3.2], by rw [insI_len]; omega, fun j n' a hj => ?_, fun e he => ?_, ?_⟩
                · rcases insI_get hj with ⟨rfl, rfl⟩ | ⟨j', hj'⟩
                  · exact ⟨{ key := .int kd n', val := xv, born := clock }, by simp, rfl, VR_mono S F hx⟩
                  · obtain ⟨e, g1, g2, g3⟩ := e2.1 j' n' a hj'
                    exact ⟨e, by simp only [Array.toList_push, List.mem_append]; exact .inl g1, g2, VR_mono S F g3⟩
                · simp only [Array.toList_push, List.mem_append, List.mem_singleton] at he
                  rcases he with he | rfl
                  · obtain ⟨m', g1, g2⟩ := e2.2.1 e he
                    exact ⟨m', g1, by rw [memI_ins, g2]; simp⟩
                  · exact ⟨n, rfl, by rw [memI_ins]; simp⟩
                · simp only [Array.toList_push, List.map_append, List.map_cons, List.map_nil]
                  rw [List.nodup_append]
                  refine ⟨e2.2.2, by simp, fun a ha b hb => ?_⟩
                  simp only [List.mem_singleton] at hb
                  subst hb
                  obtain ⟨e, he, rfl⟩ := List.mem_map.1 ha
                  exact hno e he)
            exact ⟨ρ, O, VR.ofLit _, W.1, W.2⟩
        · rw [firstI_mem, f1] at hmem
          cases hmem
      · cases he
    · cases he
  · cases he

/-! ### look-ups -/
theorem litInts_get {kd : IntKind} {n z : Int} : ∀ {es : List (Int × AV)} {m : List (Int × Int)}, litInts kd es = some m →
    (firstI es n = none → mgetI m n z = z) ∧ ∀ a, firstI es n = some a → a = .lit (.int kd (mgetI m n z))
  | [], m, he => by simp [litInts] at he; subst he; exact ⟨fun _ => rfl, fun a ha => by simp [firstI] at ha⟩
  | (k, a0) :: es, m, he => by
    unfold litInts at he
    split at he
    · rename_i h0; cases h0
    · rename_i k' kd' v l h0
      simp only [List.cons.injEq, Prod.mk.injEq] at h0
      obtain ⟨⟨rfl, rfl⟩, rfl⟩ := h0
      split at he
      · rename_i r h2
        split at he
        · rename_i hk
          subst hk
          cases he
          obtain ⟨i1, i2⟩ := litInts_get (n := n) (z := z) h2
          simp only [firstI, mgetI]
          cases hkn : (k == n) with
          | true => simp only [cond_true]; exact ⟨fun h => (by cases h), fun a ha => by cases ha; rfl⟩
          | false => simp only [cond_false]; exact ⟨i1, i2⟩
        · cases he
      · cases he
    · cases he

theorem lookupI_sound {t : TypeId} {m i : AV} {mv iv : Value} {ok : Bool} {v : AV} (S : Sim G ρ h O w) (hsub : ∀ id r, hr id = some r → h id = some r)
    (hm : VR ρ h O w m mv) (hi : VR ρ h O w i iv) (he : lookupI P t m i ok hr = some v) :
    ∃ y, (Instr.lookup t mv iv ok).run P w = .ok y w ∧ VR ρ h O w v y := by
  unfold lookupI at he
  split at he
  · rename_i kt e id kd n ht
    split at he
    · rename_i kd' kd'' es kz z hkt hh hz
      split at he
      · rename_i hkk
        obtain ⟨rfl, rfl⟩ := hkk
        split at he
        · rename_i mm hmm
          cases he
          have hid := hsub _ _ hh
          have hmv := VR_mp hm hid rfl
          have hkv := VR_lit hi
          subst hmv; subst hkv
          obtain ⟨ents, clock, e1, e2, e3⟩ := map_row S hid
          obtain ⟨l1, l2⟩ := litInts_get (n := n) (z := z) hmm
          have fin : ∀ (x : Int) (b : Bool), VR ρ h O w (bif ok then .tup [.lit (.int kz x), .lit (.bool b)] else .lit (.int kz x)) (if ok then .tuple #[.int kz x, .bool b] else .int kz x) := fun x b => by
            cases ok with
            | false => exact VR.ofLit _
            | true =>
              refine .tup rfl fun j c u hc hu => ?_
              match j with
              | 0 => simp at hc hu; subst hc; subst hu; exact VR.ofLit _
              | 1 => simp at hc hu; subst hc; subst hu; exact VR.ofLit _
              | j + 2 => simp at hc
          have hzz : ∃ inf, P.info? e = some inf ∧ inf.zero = some (.int kz z) := by
            unfold zeroOf at hz
            cases hi : P.info? e with
            | none => simp [hi] at hz
            | some inf => exact ⟨inf, rfl, by simpa [hi] using hz⟩
          obtain ⟨inf, hinf, hinz⟩ := hzz
          rcases findNow_sound (n := n) es ents.toList 0 e2 with ⟨f1, f2⟩ | ⟨a, k', val, f1, f2, f3⟩
          · refine ⟨_, ?_, fin (mgetI mm n z) (memI es n)⟩
            rw [l1 f1, firstI_mem, f1]
            simp [Instr.lookup, run_underlying ht, getObj, Sem.run, e1, checkKey_int hkt, Instr.findKey, run_underlying hkt, f2, zeroValue, typeInfo, hinf, hinz]
          · refine ⟨_, ?_, fin (mgetI mm n z) (memI es n)⟩
            have := l2 a f1
            subst this
            have hval := VR_lit f3
            subst hval
            rw [firstI_mem, f1]
            simp [Instr.lookup, run_underlying ht, getObj, Sem.run, e1, checkKey_int hkt, Instr.findKey, run_underlying hkt, f2]
        · cases he
      · cases he
    · cases he
  · cases he

theorem lookupG_sound {t : TypeId} {m i : AV} {mv iv : Value} {ok : Bool} {v : AV} (S : Sim G ρ h O w) (hsub : ∀ id r, hr id = some r → h id = some r)
    (hm : VR ρ h O w m mv) (hi : VR ρ h O w i iv) (he : lookupG P t m i ok hr = some v) :
    ∃ y, (Instr.lookup t mv iv ok).run P w = .ok y w ∧ VR ρ h O w v y := by
  unfold lookupG at he
  split at he
  · rename_i kt e id kd n ht
    split at he
    · rename_i kd' kd'' es z hkt hh hz
      split at he
      · rename_i hkk
        obtain ⟨rfl, rfl⟩ := hkk
        have hid := hsub _ _ hh
        have hmv := VR_mp hm hid rfl
        have hkv := VR_lit hi
        subst hmv; subst hkv
        obtain ⟨ents, clock, e1, e2, e3⟩ := map_row S hid
        have fin : ∀ (a : AV) (x : Value) (b : Bool), VR ρ h O w a x → VR ρ h O w (bif ok then .tup [a, .lit (.bool b)] else a) (if ok then .tuple #[x, .bool b] else x) := fun a x b hax => by
          cases ok with
          | false => exact hax
          | true =>
            refine .tup rfl fun j c u hc hu => ?_
            match j with
            | 0 => simp at hc hu; subst hc; subst hu; exact hax
            | 1 => simp at hc hu; subst hc; subst hu; exact VR.ofLit _
            | j + 2 => simp at hc
        have hzz : ∃ inf, P.info? e = some inf ∧ inf.zero = some z := by
          unfold zeroOf at hz
          cases hi : P.info? e with
          | none => simp [hi] at hz
          | some inf => exact ⟨inf, rfl, by simpa [hi] using hz⟩
        obtain ⟨inf, hinf, hinz⟩ := hzz
        rcases findNow_sound (n := n) es ents.toList 0 e2 with ⟨f1, f2⟩ | ⟨a, k', val, f1, f2, f3⟩
        · rw [f1] at he
          cases he
          refine ⟨_, ?_, fin _ _ _ (VR.ofLit z)⟩
          simp [Instr.lookup, run_underlying ht, getObj, Sem.run, e1, checkKey_int hkt, Instr.findKey, run_underlying hkt, f2, zeroValue, typeInfo, hinf, hinz]
        · rw [f1] at he
          cases he
          refine ⟨_, ?_, fin _ _ _ f3⟩
          simp [Instr.lookup, run_underlying ht, getObj, Sem.run, e1, checkKey_int hkt, Instr.findKey, run_underlying hkt, f2]
      · cases he
    · cases he
  · cases he

theorem lookup_sound {t : TypeId} {m i : AV} {mv iv : Value} {ok : Bool} {v : AV} (S : Sim G ρ h O w) (hsub : ∀ id r, hr id = some r → h id = some r)
    (hm : VR ρ h O w m mv) (hi : VR ρ h O w i iv) (he : lookupE P t m i ok hr = some v) :
    ∃ y, (Instr.lookup t mv iv ok).run P w = .ok y w ∧ VR ρ h O w v y := by
  unfold lookupE at he
  split at he
  · rename_i v' hv'
    cases he
    exact lookupI_sound S hsub hm hi hv'
  · exact lookupG_sound S hsub hm hi he
end
end Go.Ax
/-
  An abstract machine for Go functions (part 15): a run of something else in the middle, on some of the rows; calls.
-/
set_option linter.unusedVariables false
set_option linter.unusedSimpArgs false
namespace Go.Ax

theorem elemB_iff {l : List Nat} {x : Nat} : elemB l x = true ↔ x ∈ l := by
  induction l with
  | nil => simp [elemB]
  | cons y l ih =>
    simp only [elemB, List.mem_cons]
    cases hb : Nat.beq y x with
    | true => simp [(Nat.eq_of_beq_eq_true hb).symm]
    | false =>
      simp only [cond_false, ih]
      have : x ≠ y := fun e => by subst e; simp at hb
      simp [this]

theorem nodupB_spec : ∀ {l : List Nat}, nodupB l = true → ∀ (i j : Nat) x, l[i]? = some x → l[j]? = some x → i = j
  | [], _, i, j, x, hi, hj => by simp at hi
  | y :: l, hl, i, j, x, hi, hj => by
    unfold nodupB at hl
    cases hb : elemB l y with
    | true => simp [hb] at hl
    | false =>
      simp only [hb, cond_false] at hl
      have hn : y ∉ l := fun hm => by rw [elemB_iff.2 hm] at hb; cases hb
      cases i with
      | zero =>
        cases j with
        | zero => rfl
        | succ j => simp at hi hj; subst hi; exact absurd (List.mem_of_getElem? hj) hn
      | succ i =>
        cases j with
        | zero => simp at hi hj; subst hj; exact absurd (List.mem_of_getElem? hi) hn
        | succ j => simp at hi hj; rw [nodupB_spec hl i j x hi hj]

theorem idxIn_spec : ∀ {l : List Nat} {b id k : Nat}, idxIn l b id = some k → b ≤ k ∧ l[k - b]? = some id
  | [], b, id, k, h => by simp [idxIn] at h
  | x :: l, b, id, k, h => by
    unfold idxIn at h
    cases hb : Nat.beq x id with
    | true =>
      simp only [hb, cond_true, Option.some.injEq] at h
      subst h
      simp [Nat.eq_of_beq_eq_true hb]
    | false =>
      simp only [hb, cond_false] at h
      obtain ⟨h1, h2⟩ := idxIn_spec h
      refine ⟨by omega, ?_⟩
      rw [show k - b = (k - (b + 1)) + 1 by omega]
      simpa using h2

theorem hL_get {H : List Row} {k : Nat} : hL H k = H[k]? := nth_eq H k

theorem allLive_spec {h : Heap} : ∀ {L : List Nat}, allLive h L = true → ∀ id ∈ L, ∃ r, h id = some r ∧ r.live = true
  | [], _, id, hm => by cases hm
  | x :: L, hl, id, hm => by
    unfold allLive at hl
    split at hl
    · rename_i r hr
      cases hv : r.live with
      | false => simp [hv] at hl
      | true =>
        simp only [hv, cond_true] at hl
        rcases List.mem_cons.1 hm with rfl | hm
        · exact ⟨r, hr, hv⟩
        · exact allLive_spec hl id hm
    · cases hl

theorem leRows_spec {L0 : List Nat} {h : Heap} : ∀ {L : List Nat} {H : List Row}, leRows L0 h L H → H.length = L.length ∧
    ∀ (k id : Nat), L[k]? = some id → ∃ r' r, h id = some r' ∧ H[k]? = some r ∧ RowLe (r'.ren (idxIn L0 0)) r
  | [], [], _ => ⟨rfl, fun k id h => by simp at h⟩
  | [], _ :: _, h => by cases h
  | _ :: _, [], h => by cases h
  | x :: L, r :: H, ⟨h1, h2⟩ => by
    obtain ⟨i1, i2⟩ := leRows_spec h2
    refine ⟨by simp [i1], fun k id hk => ?_⟩
    cases k with
    | zero =>
      simp at hk
      subst hk
      split at h1
      · rename_i r' hr'; exact ⟨r', r, hr', rfl, h1⟩
      · cases h1
    | succ k => simpa using i2 k id (by simpa using hk)

theorem Row.ren_live (f : Nat → Option Nat) (r : Row) : (r.ren f).live = r.live := by cases r <;> rfl
theorem Row.ren_isMap (f : Nat → Option Nat) (r : Row) : (r.ren f).isMap = r.isMap := by cases r <;> rfl
theorem Row.ren_sz (f : Nat → Option Nat) (r : Row) : (r.ren f).sz = r.sz := by cases r <;> rfl
theorem Row.ren_len (f : Nat → Option Nat) (r : Row) : (r.ren f).len = r.len := by cases r <;> simp [Row.ren, Row.len, AV.renL_map]
theorem memI_ren (f : Nat → Option Nat) (n : Int) : ∀ es, memI (renE f es) n = memI es n
  | [] => rfl
  | (k, a) :: l => by simp [renE, memI, memI_ren f n l]

theorem RowR_ren {f : Nat → Option Nat} {ρ ρ2 : Lay} {h h2 : Heap} {O : Nat → Prop} {w : World} (hf : RenOk f ρ h ρ2 h2) {id k : Nat} {r : Row} (hp : r.live = true → ρ2 k = ρ id)
    (hr : RowR ρ h O w id r) : RowR ρ2 h2 O w k (r.ren f) := by
  cases r with
  | gone => trivial
  | map kd es =>
    obtain ⟨ents, clock, h1, h2, h2', h3, h4, h5⟩ := hr
    refine ⟨ents, clock, by rw [hp rfl]; exact h1, by simpa [renE_map] using h2, by simpa [renE_map] using h2', fun j n a hj => ?_, fun e he => by obtain ⟨n, q1, q2⟩ := h4 e he; exact ⟨n, q1, by rw [memI_ren]; exact q2⟩, h5⟩
    rw [renE_map, List.getElem?_map] at hj
    obtain ⟨⟨n', a'⟩, hj', he⟩ := Option.map_eq_some_iff.1 hj
    simp only [Prod.mk.injEq] at he
    obtain ⟨rfl, rfl⟩ := he
    obtain ⟨e, g1, g2, g3⟩ := h3 j n' a' hj'
    exact ⟨e, g1, g2, VR_ren hf g3⟩
  | cells e sz cs =>
    obtain ⟨cur, h1, h2, h3⟩ := hr
    refine ⟨cur, by rw [hp rfl]; exact h1, by rw [hp rfl]; simpa [Row.ren, Row.len, AV.renL_map] using h2, fun j a hj => ?_⟩
    simp only [Row.ren, Row.cs] at hj
    rw [renL_getElem?] at hj
    obtain ⟨a', hj', rfl⟩ := Option.map_eq_some_iff.1 hj
    obtain ⟨v, g1, g2⟩ := h3 j a' hj'
    exact ⟨v, by rw [hp rfl]; exact g1, VR_ren hf g2⟩
  | bytes e bs =>
    obtain ⟨cur, h1, h2, h3⟩ := hr
    refine ⟨cur, by rw [hp rfl]; exact h1, by rw [hp rfl]; exact h2, fun j a hj => ?_⟩
    obtain ⟨v, g1, g2⟩ := h3 j a hj
    refine ⟨v, by rw [hp rfl]; exact g1, ?_⟩
    simp only [Row.ren, Row.cs, List.getElem?_map] at hj
    obtain ⟨b, hb, rfl⟩ := Option.map_eq_some_iff.1 hj
    have := VR_ren hf g2
    simpa [u8, AV.ren] using this

theorem RowR_le {ρ : Lay} {h : Heap} {O : Nat → Prop} {w : World} {id : Nat} {r r' : Row} (hle : RowLe r r') (hr : RowR ρ h O w id r) : RowR ρ h O w id r' := by
  obtain ⟨e1, e2, e3, e4, e5, e6, e7, e8⟩ := hle
  cases hl : r'.live with
  | false => cases r' <;> first | trivial | cases hl
  | true =>
    cases hm : r'.isMap with
    | false =>
      rw [rowR_cells hl hm]
      rw [rowR_cells (e1.trans hl) (e2.trans hm)] at hr
      obtain ⟨cur, h1, h2, h3⟩ := hr
      refine ⟨cur, by rw [← e3]; exact h1, by rw [Row.cs_length, ← e5, ← Row.cs_length]; exact h2, fun j a hj => ?_⟩
      have hlt : j < r.cs.length := by
        have := (List.getElem?_eq_some_iff.1 hj).1
        rw [Row.cs_length] at this ⊢
        omega
      obtain ⟨v, g1, g2⟩ := h3 j r.cs[j] (List.getElem?_eq_some_iff.2 ⟨hlt, rfl⟩)
      exact ⟨v, g1, e8 j _ a (List.getElem?_eq_some_iff.2 ⟨hlt, rfl⟩) hj _ _ _ _ _ g2⟩
    | true =>
      cases r' with
      | map k' es' =>
        cases r with
        | map k es =>
          simp only [Row.kind, Row.ents] at e6 e7
          subst e6; subst e7
          exact hr
        | gone => cases e2
        | cells => cases e2
        | bytes => cases e2
      | gone => cases hm
      | cells => cases hm
      | bytes => cases hm

theorem backRows_spec {L : List Nat} {fr : Nat} : ∀ (H : List Row) (b id : Nat) (r : Row), lookL (backRows L fr b H) id = some r →
    ∃ k r0, H[k]? = some r0 ∧ (backTo L fr (b + k)).getD 0 = id ∧ r = r0.ren (backTo L fr)
  | [], b, id, r, h => by simp [backRows, lookL] at h
  | x :: H, b, id, r, h => by
    simp only [backRows, lookL] at h
    cases hb : Nat.beq ((backTo L fr b).getD 0) id with
    | true =>
      simp only [hb, cond_true, Option.some.injEq] at h
      exact ⟨0, x, rfl, Nat.eq_of_beq_eq_true hb, h.symm⟩
    | false =>
      simp only [hb, cond_false] at h
      obtain ⟨k, r0, h1, h2, h3⟩ := backRows_spec H (b + 1) id r h
      exact ⟨k + 1, r0, by simpa using h1, by rw [← h2]; congr 2; omega, h3⟩

theorem backRows_some {L : List Nat} {fr : Nat} : ∀ (H : List Row) (b id k : Nat), k < H.length → (backTo L fr (b + k)).getD 0 = id → ∃ r, lookL (backRows L fr b H) id = some r
  | [], b, id, k, hk, he => by simp at hk
  | x :: H, b, id, k, hk, he => by
    simp only [backRows, lookL]
    cases hb : Nat.beq ((backTo L fr b).getD 0) id with
    | true => exact ⟨x.ren (backTo L fr), by simp⟩
    | false =>
      simp only [cond_false]
      cases k with
      | zero => rw [Nat.add_zero] at he; rw [he] at hb; simp at hb
      | succ k => exact backRows_some H (b + 1) id k (by simpa using hk) (by rw [← he]; congr 2; omega)

theorem backTo_lt {L : List Nat} {fr k id : Nat} (h : L[k]? = some id) : backTo L fr k = some id := by simp [backTo, nth_eq, h]
theorem backTo_ge {L : List Nat} {fr k : Nat} (h : L.length ≤ k) : backTo L fr k = some (fr + (k - L.length)) := by simp [backTo, nth_eq, List.getElem?_eq_none h]

section
variable {P : Program} {G : Env} {ρ : Lay} {h hr : Heap} {O : Nat → Prop} {w : World}

/-- The rows handed on, as the other side numbers them. -/
def layOf (ρ : Lay) (L : List Nat) : Lay := fun k => match L[k]? with | some id => ρ id | none => (0, 0)

theorem layOf_get {L : List Nat} {k id : Nat} (hk : L[k]? = some id) : layOf ρ L k = ρ id := by simp [layOf, hk]

structure SubOk (h : Heap) (L : List Nat) (H : List Row) : Prop where
  nodup : ∀ (i j : Nat) x, L[i]? = some x → L[j]? = some x → i = j
  live : ∀ id ∈ L, ∃ r, h id = some r ∧ r.live = true
  len : H.length = L.length
  le : ∀ (k id : Nat), L[k]? = some id → ∃ r' r, h id = some r' ∧ H[k]? = some r ∧ RowLe (r'.ren (idxIn L 0)) r

theorem SubOk.of {L : List Nat} {H : List Row} (hsub : ∀ id r, hr id = some r → h id = some r) (h1 : nodupB L = true) (h2 : allLive hr L = true) (h3 : leRows L hr L H) : SubOk h L H where
  nodup := nodupB_spec h1
  live := fun id hm => by obtain ⟨r, hr1, hr2⟩ := allLive_spec h2 id hm; exact ⟨r, hsub _ _ hr1, hr2⟩
  len := (leRows_spec h3).1
  le := fun k id hk => by obtain ⟨r', r, a, b, c⟩ := (leRows_spec h3).2 k id hk; exact ⟨r', r, hsub _ _ a, b, c⟩

theorem SubOk.get {L : List Nat} {H : List Row} (K : SubOk h L H) {k : Nat} {r : Row} (hk : H[k]? = some r) : ∃ id r', L[k]? = some id ∧ h id = some r' ∧ RowLe (r'.ren (idxIn L 0)) r ∧ r'.live = true := by
  have hlt : k < L.length := by rw [← K.len]; exact (List.getElem?_eq_some_iff.1 hk).1
  have hid : L[k]? = some L[k] := List.getElem?_eq_some_iff.2 ⟨hlt, rfl⟩
  obtain ⟨r', r2, a, b, c⟩ := K.le k _ hid
  rw [hk] at b
  cases b
  obtain ⟨r3, d, e⟩ := K.live _ (List.mem_of_getElem? hid)
  rw [a] at d
  cases d
  exact ⟨_, r', hid, a, c, e⟩

theorem SubOk.ren {L : List Nat} {H : List Row} (K : SubOk h L H) : RenOk (idxIn L 0) ρ h (layOf ρ L) (hL H) where
  ok := fun id k r hk hid => by
    obtain ⟨_, h2⟩ := idxIn_spec hk
    rw [Nat.sub_zero] at h2
    obtain ⟨r', r2, a, b, c⟩ := K.le k id h2
    rw [hid] at a
    cases a
    obtain ⟨e1, e2, e3, e4, e5, e6, e7, e8⟩ := c
    refine ⟨r2, by rw [hL_get]; exact b, fun hl => ⟨?_, layOf_get h2, ?_, ?_, ?_⟩⟩
    · rw [← Row.ren_live (idxIn L 0), e1]; exact hl
    · rw [← e2, Row.ren_isMap]
    · rw [← e4, Row.ren_sz]
    · rw [← e5, Row.ren_len]; exact Nat.le_refl _

theorem SubOk.sim {L : List Nat} {H : List Row} (K : SubOk h L H) (S : Sim G ρ h O w) : Sim G (layOf ρ L) (hL H) O w where
  rows := fun k r hk => by
    rw [hL_get] at hk
    obtain ⟨id, r', a, b, c, d⟩ := K.get hk
    exact RowR_le c (RowR_ren (K.ren (ρ := ρ)) (fun _ => layOf_get a) (S.rows id r' b))
  inj := fun i j ri rj hi hj hli hlj he => by
    rw [hL_get] at hi hj
    obtain ⟨id, r', a, b, c, d⟩ := K.get hi
    obtain ⟨id2, r2', a2, b2, c2, d2⟩ := K.get hj
    rw [layOf_get a, layOf_get a2] at he
    have := S.inj id id2 r' r2' b b2 d d2 he
    subst this
    exact K.nodup i j _ a a2
  notO := fun k r hk hl => by
    rw [hL_get] at hk
    obtain ⟨id, r', a, b, c, d⟩ := K.get hk
    rw [layOf_get a]
    exact S.notO id r' b d
  lt := S.lt
  glob := S.glob

/-- The layout afterwards, in the caller's numbers. -/
def layBack (ρ : Lay) (L : List Nat) (fr n : Nat) (ρ2 : Lay) : Lay := fun id =>
  match idxIn L 0 id with
  | some k => ρ2 k
  | none => if fr ≤ id ∧ id < fr + (n - L.length) then ρ2 (id - fr + L.length) else ρ id

theorem idxIn_get {L : List Nat} (hn : ∀ (i j : Nat) x, L[i]? = some x → L[j]? = some x → i = j) {k id : Nat} (hk : L[k]? = some id) : idxIn L 0 id = some k := by
  have hex : ∀ (l : List Nat) (b : Nat), id ∈ l → ∃ m, idxIn l b id = some m := by
    intro l
    induction l with
    | nil => intro b hm; cases hm
    | cons x l ih =>
      intro b hm
      unfold idxIn
      cases hb : Nat.beq x id with
      | true => exact ⟨b, by simp⟩
      | false =>
        simp only [cond_false]
        refine ih (b + 1) ?_
        rcases List.mem_cons.1 hm with e | hm
        · subst e; simp at hb
        · exact hm
  obtain ⟨m, hm⟩ := hex L 0 (List.mem_of_getElem? hk)
  obtain ⟨_, h2⟩ := idxIn_spec hm
  rw [Nat.sub_zero] at h2
  rw [hm, hn m k id h2 hk]

theorem idxIn_none {L : List Nat} {id : Nat} (hn : id ∉ L) : idxIn L 0 id = none := by
  cases hi : idxIn L 0 id with
  | none => rfl
  | some k => exact absurd (List.mem_of_getElem? (idxIn_spec hi).2) hn

theorem sub_back {L : List Nat} {H H' : List Row} {fr : Nat} {ρ2 : Lay} {O2 : Nat → Prop} {w2 : World} (K : SubOk h L H) (S : Sim G ρ h O w) (hlen : L.length ≤ H'.length)
    (hfr : ∀ i, fr ≤ i → i < fr + (H'.length - L.length) → h i = none) (S2 : Sim G ρ2 (hL H') O2 w2) (F : Fr (layOf ρ L) (hL H) O w ρ2 (hL H') O2 w2) :
    RenOk (backTo L fr) ρ2 (hL H') (layBack ρ L fr H'.length ρ2) (h.upd (backRows L fr 0 H')) ∧
    Sim G (layBack ρ L fr H'.length ρ2) (h.upd (backRows L fr 0 H')) O2 w2 ∧ Fr ρ h O w (layBack ρ L fr H'.length ρ2) (h.upd (backRows L fr 0 H')) O2 w2 := by
  have hnL : ∀ i, fr ≤ i → i < fr + (H'.length - L.length) → i ∉ L := fun i h1 h2 hm => by
    obtain ⟨r, hr, _⟩ := K.live i hm
    rw [hfr i h1 h2] at hr
    cases hr
  -- where a number comes from
  have hlay : ∀ k, k < H'.length → ∃ id, backTo L fr k = some id ∧ layBack ρ L fr H'.length ρ2 id = ρ2 k := fun k hk => by
    by_cases hk1 : k < L.length
    · have hid : L[k]? = some L[k] := List.getElem?_eq_some_iff.2 ⟨hk1, rfl⟩
      exact ⟨_, backTo_lt hid, by simp only [layBack, idxIn_get K.nodup hid]⟩
    · refine ⟨_, backTo_ge (by omega), ?_⟩
      simp only [layBack, idxIn_none (hnL (fr + (k - L.length)) (by omega) (by omega))]
      rw [if_pos ⟨by omega, by omega⟩]
      congr 1
      omega
  have hbinj : ∀ k1 k2 id, k1 < H'.length → k2 < H'.length → backTo L fr k1 = some id → backTo L fr k2 = some id → k1 = k2 := fun k1 k2 id hk1 hk2 e1 e2 => by
    by_cases c1 : k1 < L.length <;> by_cases c2 : k2 < L.length
    · have i1 : L[k1]? = some L[k1] := List.getElem?_eq_some_iff.2 ⟨c1, rfl⟩
      have i2 : L[k2]? = some L[k2] := List.getElem?_eq_some_iff.2 ⟨c2, rfl⟩
      rw [backTo_lt i1] at e1
      rw [backTo_lt i2] at e2
      exact K.nodup k1 k2 id (by rw [i1, e1]) (by rw [i2, e2])
    · have i1 : L[k1]? = some L[k1] := List.getElem?_eq_some_iff.2 ⟨c1, rfl⟩
      rw [backTo_lt i1] at e1
      rw [backTo_ge (by omega)] at e2
      simp only [Option.some.injEq] at e1 e2
      exact absurd (List.mem_of_getElem? i1) (by rw [e1, ← e2]; exact hnL _ (by omega) (by omega))
    · have i2 : L[k2]? = some L[k2] := List.getElem?_eq_some_iff.2 ⟨c2, rfl⟩
      rw [backTo_lt i2] at e2
      rw [backTo_ge (by omega)] at e1
      simp only [Option.some.injEq] at e1 e2
      exact absurd (List.mem_of_getElem? i2) (by rw [e2, ← e1]; exact hnL _ (by omega) (by omega))
    · rw [backTo_ge (by omega)] at e1 e2
      simp only [Option.some.injEq] at e1 e2
      omega
  have hget : ∀ k r id, H'[k]? = some r → backTo L fr k = some id → (h.upd (backRows L fr 0 H')) id = some (r.ren (backTo L fr)) := fun k r id hk hb => by
    have hlt := (List.getElem?_eq_some_iff.1 hk).1
    obtain ⟨r1, hr1⟩ := backRows_some (L := L) (fr := fr) H' 0 id k hlt (by rw [Nat.zero_add, hb]; rfl)
    obtain ⟨k2, r0, g1, g2, g3⟩ := backRows_spec H' 0 id r1 hr1
    rw [Nat.zero_add] at g2
    have hlt2 := (List.getElem?_eq_some_iff.1 g1).1
    obtain ⟨id2, j1, _⟩ := hlay k2 hlt2
    rw [j1] at g2
    simp at g2
    subst g2
    have := hbinj k k2 id2 hlt hlt2 hb j1
    subst this
    rw [hk] at g1
    cases g1
    simp only [Heap.upd, hr1, g3]
  -- which rows there are
  have hcase : ∀ id r, (h.upd (backRows L fr 0 H')) id = some r → (∃ k r0, H'[k]? = some r0 ∧ backTo L fr k = some id ∧ r = r0.ren (backTo L fr) ∧ layBack ρ L fr H'.length ρ2 id = ρ2 k) ∨
      (h id = some r ∧ id ∉ L ∧ layBack ρ L fr H'.length ρ2 id = ρ id) := fun id r hr => by
    cases hl : lookL (backRows L fr 0 H') id with
    | some r1 =>
      simp only [Heap.upd, hl, Option.some.injEq] at hr
      subst hr
      obtain ⟨k, r0, g1, g2, g3⟩ := backRows_spec H' 0 id r1 hl
      rw [Nat.zero_add] at g2
      obtain ⟨id2, j1, j2⟩ := hlay k (List.getElem?_eq_some_iff.1 g1).1
      rw [j1] at g2
      simp at g2
      subst g2
      exact .inl ⟨k, r0, g1, j1, g3, j2⟩
    | none =>
      simp only [Heap.upd, hl] at hr
      have hno : id ∉ L := fun hm => by
        obtain ⟨k, hk, he⟩ := List.getElem_of_mem hm
        have : L[k]? = some id := by rw [List.getElem?_eq_some_iff]; exact ⟨hk, he⟩
        obtain ⟨r1, hr1⟩ := backRows_some (L := L) (fr := fr) H' 0 id k (by omega) (by rw [Nat.zero_add, backTo_lt this]; rfl)
        rw [hl] at hr1
        cases hr1
      refine .inr ⟨hr, hno, ?_⟩
      simp only [layBack, idxIn_none hno]
      rw [if_neg]
      rintro ⟨a, b⟩
      rw [hfr id a b] at hr
      cases hr
  have hsubrow : ∀ id ∈ L, ∀ r, h id = some r → r.live = true → ∃ k rk, (hL H) k = some rk ∧ L[k]? = some id ∧ layOf ρ L k = ρ id ∧ RowLe (r.ren (idxIn L 0)) rk := fun id hm r hr hl => by
    obtain ⟨k, hk, he⟩ := List.getElem_of_mem hm
    have hid : L[k]? = some id := by rw [List.getElem?_eq_some_iff]; exact ⟨hk, he⟩
    obtain ⟨r', r2, a, b, c⟩ := K.le k id hid
    rw [hr] at a
    cases a
    exact ⟨k, r2, by rw [hL_get]; exact b, hid, layOf_get hid, c⟩
  have hkeep : ∀ b, b < w.heap.size → (∀ id ∈ L, ∀ r, h id = some r → (ρ id).1 ≠ b) → w2.heap[b]? = w.heap[b]? := fun b hb hn => F.keep b hb fun k rk hk hlk he => by
    rw [hL_get] at hk
    obtain ⟨id, r', a, b', c, d⟩ := K.get hk
    rw [layOf_get a] at he
    exact hn id (List.mem_of_getElem? a) r' b' he
  have hother : ∀ id r, h id = some r → r.live = true → id ∉ L → w2.heap[(ρ id).1]? = w.heap[(ρ id).1]? := fun id r hr hl hno => hkeep _ (S.block_lt hr hl) fun id2 hm2 r2 hr2 he => by
    obtain ⟨r3, hr3, hl3⟩ := K.live id2 hm2
    rw [hr2] at hr3
    cases hr3
    have := S.inj id2 id r2 r hr2 hr hl3 hl he
    subst this
    exact hno hm2
  have FF : Fr ρ h O w (layBack ρ L fr H'.length ρ2) (h.upd (backRows L fr 0 H')) O2 w2 :=
    { os := F.os, tape := F.tape, output := F.output, size := F.size
      keep := fun b hb hn => hkeep b hb fun id hm r hr he => by
        obtain ⟨r3, hr3, hl3⟩ := K.live id hm
        exact hn id r3 hr3 hl3 he
      dom := fun id r hr => by
        by_cases hm : id ∈ L
        · obtain ⟨r3, hr3, hl3⟩ := K.live id hm
          rw [hr] at hr3
          cases hr3
          obtain ⟨k, rk, hk, hid, hla, hle⟩ := hsubrow id hm r hr hl3
          obtain ⟨r2, hr2, hx⟩ := F.dom k rk hk
          rw [hL_get] at hr2
          refine ⟨_, hget k r2 id hr2 (backTo_lt hid), fun hl => ?_⟩
          rw [Row.ren_live] at hl
          obtain ⟨_, a1, a2, a3, a4, a5⟩ := hx hl
          obtain ⟨e1, e2, e3, e4, e5, e6, e7, e8⟩ := hle
          refine ⟨hl3, ?_, ?_, ?_, ?_, ?_⟩
          · simp only [layBack, idxIn_get K.nodup hid]; rw [a1, hla]
          · rw [Row.ren_isMap, a2, ← e2, Row.ren_isMap]
          · rw [Row.ren_sz, a3, ← e4, Row.ren_sz]
          · rw [Row.ren_len]; rw [← e5, Row.ren_len] at a4; exact a4
          · rw [hla] at a5; exact a5
        · have hno : lookL (backRows L fr 0 H') id = none := by
            cases hl : lookL (backRows L fr 0 H') id with
            | none => rfl
            | some r1 =>
              obtain ⟨k, r0, g1, g2, g3⟩ := backRows_spec H' 0 id r1 hl
              rw [Nat.zero_add] at g2
              have hlt := (List.getElem?_eq_some_iff.1 g1).1
              by_cases hk1 : k < L.length
              · have hid : L[k]? = some L[k] := List.getElem?_eq_some_iff.2 ⟨hk1, rfl⟩
                rw [backTo_lt hid] at g2
                simp at g2
                exact absurd (List.mem_of_getElem? hid) (by rw [g2]; exact hm)
              · rw [backTo_ge (by omega)] at g2
                simp at g2
                rw [← g2, hfr _ (by omega) (by omega)] at hr
                cases hr
          have hup : (h.upd (backRows L fr 0 H')) id = some r := by simp only [Heap.upd, hno]; exact hr
          refine ⟨r, hup, fun hl => ⟨hl, ?_, rfl, rfl, Nat.le_refl _, by simp only [blockSize, hother id r hr hl hm]⟩⟩
          rcases hcase id r hup with ⟨k, r0, g1, g2, g3, g4⟩ | ⟨_, _, g3⟩
          · exfalso
            have hlt := (List.getElem?_eq_some_iff.1 g1).1
            by_cases hk1 : k < L.length
            · have hid : L[k]? = some L[k] := List.getElem?_eq_some_iff.2 ⟨hk1, rfl⟩
              rw [backTo_lt hid] at g2
              simp at g2
              exact absurd (List.mem_of_getElem? hid) (by rw [g2]; exact hm)
            · rw [backTo_ge (by omega)] at g2
              simp at g2
              rw [← g2, hfr _ (by omega) (by omega)] at hr
              cases hr
          · exact g3
      own := fun id r hr hl => by
        rcases hcase id r hr with ⟨k, r0, g1, g2, g3, g4⟩ | ⟨g1, g2, g3⟩
        · rw [g4]
          subst g3
          rw [Row.ren_live] at hl
          rcases F.own k r0 (by rw [hL_get]; exact g1) hl with ⟨i, ri, hi, hli, he⟩ | hge
          · rw [hL_get] at hi
            obtain ⟨id', r', a, b, c, d⟩ := K.get hi
            rw [layOf_get a] at he
            exact .inl ⟨id', r', b, d, he⟩
          · exact .inr hge
        · rw [g3]; exact .inl ⟨id, r, g1, hl, rfl⟩
      old := F.old
      oldnew := fun b hb => by
        rcases F.oldnew b hb with h1 | ⟨i, ri, hi, hli, he⟩ | hge
        · exact .inl h1
        · rw [hL_get] at hi
          obtain ⟨id', r', a, b', c, d⟩ := K.get hi
          rw [layOf_get a] at he
          exact .inr (.inl ⟨id', r', b', d, he⟩)
        · exact .inr (.inr hge) }
  have R : RenOk (backTo L fr) ρ2 (hL H') (layBack ρ L fr H'.length ρ2) (h.upd (backRows L fr 0 H')) :=
    ⟨fun k id r hb hk => by
      rw [hL_get] at hk
      have hlt := (List.getElem?_eq_some_iff.1 hk).1
      obtain ⟨id2, j1, j2⟩ := hlay k hlt
      rw [hb] at j1
      cases j1
      refine ⟨_, hget k r id hk hb, fun hl => ?_⟩
      rw [Row.ren_live] at hl
      exact ⟨hl, j2, Row.ren_isMap _ _, Row.ren_sz _ _, by rw [Row.ren_len]; exact Nat.le_refl _⟩⟩
  refine ⟨R, S.step FF (fun id r hr hl => ?_) (fun i j ri rj hi hj hli hlj he => ?_) (fun id r hr hl hO => ?_) S2.lt, FF⟩
  · rcases hcase id r hr with ⟨k, r0, g1, g2, g3, g4⟩ | ⟨g1, g2, g3⟩
    · subst g3
      exact .inr (RowR_ren R (fun _ => g4) (S2.rows k r0 (by rw [hL_get]; exact g1)))
    · exact .inl ⟨g1, g3, hother id r g1 hl g2⟩
  · rcases hcase i ri hi with ⟨k, r0, g1, g2, g3, g4⟩ | ⟨g1, g2, g3⟩ <;> rcases hcase j rj hj with ⟨k', r0', g1', g2', g3', g4'⟩ | ⟨g1', g2', g3'⟩
    · subst g3; subst g3'
      rw [Row.ren_live] at hli hlj
      rw [g4, g4'] at he
      have := S2.inj k k' r0 r0' (by rw [hL_get]; exact g1) (by rw [hL_get]; exact g1') hli hlj he
      subst this
      rw [g2] at g2'
      cases g2'
      rfl
    · exfalso
      subst g3
      rw [Row.ren_live] at hli
      rw [g4, g3'] at he
      rcases F.own k r0 (by rw [hL_get]; exact g1) hli with ⟨q, rq, hq, hlq, heq⟩ | hge
      · rw [hL_get] at hq
        obtain ⟨id', r', a, b, c, d⟩ := K.get hq
        rw [layOf_get a] at heq
        have := S.inj id' j r' rj b g1' d hlj (heq.trans he)
        subst this
        exact g2' (List.mem_of_getElem? a)
      · have := S.block_lt g1' hlj
        omega
    · exfalso
      subst g3'
      rw [Row.ren_live] at hlj
      rw [g3, g4'] at he
      rcases F.own k' r0' (by rw [hL_get]; exact g1') hlj with ⟨q, rq, hq, hlq, heq⟩ | hge
      · rw [hL_get] at hq
        obtain ⟨id', r', a, b, c, d⟩ := K.get hq
        rw [layOf_get a] at heq
        have := S.inj id' i r' ri b g1 d hli (heq.trans he.symm)
        subst this
        exact g2 (List.mem_of_getElem? a)
      · have := S.block_lt g1 hli
        omega
    · rw [g3, g3'] at he
      exact S.inj i j ri rj g1 g1' hli hlj he
  · rcases hcase id r hr with ⟨k, r0, g1, g2, g3, g4⟩ | ⟨g1, g2, g3⟩
    · subst g3
      rw [Row.ren_live] at hl
      rw [g4] at hO
      exact S2.notO k r0 (by rw [hL_get]; exact g1) hl hO
    · rw [g3] at hO
      rcases F.oldnew _ hO with h1 | ⟨i, ri, hi, hli, he⟩ | hge
      · exact S.notO id r g1 hl h1
      · rw [hL_get] at hi
        obtain ⟨id', r', a, b', c, d⟩ := K.get hi
        rw [layOf_get a] at he
        have := S.inj id' id r' r b' g1 d hl he
        subst this
        exact g2 (List.mem_of_getElem? a)
      · have := S.block_lt g1 hl
        omega

theorem leAll_spec : ∀ {as bs : List AV}, leAll as bs → as.length = bs.length ∧ ∀ (j : Nat) a b, as[j]? = some a → bs[j]? = some b → Le a b
  | [], [], _ => ⟨rfl, fun j a b h => by simp at h⟩
  | [], _ :: _, h => by cases h
  | _ :: _, [], h => by cases h
  | x :: as, y :: bs, ⟨h1, h2⟩ => by
    obtain ⟨i1, i2⟩ := leAll_spec h2
    refine ⟨by simp [i1], fun j a b ha hb => ?_⟩
    cases j with
    | zero => simp at ha hb; subst ha; subst hb; exact h1
    | succ j => exact i2 j a b (by simpa using ha) (by simpa using hb)

theorem call_sound {g : FuncId} {as : List AV} {vals : List Value} {fr : Nat} {L : List Nat} {args : List AV} {H : List Row} {ret : AV} {H' : List Row} {v : AV} {us : List (Nat × Row)} {c : List Prop}
    (S : Sim G ρ h O w) (hsub : ∀ id r, hr id = some r → h id = some r) (hfr : ∀ i, fr ≤ i → i < fr + 64 → h i = none) (hlen : vals.length = as.length)
    (hv : ∀ (j : Nat) a x, as[j]? = some a → vals[j]? = some x → VR ρ h O w a x) (he : callE P G g as hr fr L args H ret H' = some (v, us, c)) (hC : AllP c) :
    (∃ fn, P.funcs[g]? = some fn ∧ (fn.name == "runtime.NumGoroutine") = false ∧ fn.body.isNone = false) ∧
    Calls P g vals.toArray w fun e w' => ∃ x, e = .returned x ∧ Post G ρ h O w v us x w' := by
  unfold callE at he
  cases hb : (nodupB L && allLive hr L && Nat.ble H'.length (L.length + 60) && Nat.ble L.length H'.length) with
  | false => simp [hb] at he
  | true =>
    simp only [hb, cond_true, Option.some.injEq, Prod.mk.injEq] at he
    obtain ⟨rfl, rfl, rfl⟩ := he
    simp only [Bool.and_eq_true] at hb
    obtain ⟨⟨⟨b1, b2⟩, b3⟩, b4⟩ := hb
    have b3' := Nat.le_of_ble_eq_true b3
    have b4' := Nat.le_of_ble_eq_true b4
    obtain ⟨c1, c2, c3, _⟩ := hC
    have K := SubOk.of hsub b1 b2 c3
    obtain ⟨l1, l2⟩ := leAll_spec c2
    refine ⟨c1.1, ?_⟩
    refine (c1.2 O (layOf ρ L) w vals (K.sim S) (by rw [hlen, ← l1]; simp) (fun j a x ha hx => ?_)).mono fun e w' hp => ?_
    · have hlt : j < (as.map (AV.ren (idxIn L 0))).length := by rw [l1]; exact (List.getElem?_eq_some_iff.1 ha).1
      have hlt' : j < as.length := by simpa using hlt
      have h0 : as[j]? = some as[j] := List.getElem?_eq_some_iff.2 ⟨hlt', rfl⟩
      exact l2 j _ a (by rw [List.getElem?_map, h0]; rfl) ha _ _ _ _ _ (VR_ren K.ren (hv j _ x h0 hx))
    · obtain ⟨x, ρ2, O2, rfl, p1, p2, p3⟩ := hp
      obtain ⟨q1, q2, q3⟩ := sub_back K S b4' (fun i i1 i2 => hfr i i1 (by omega)) p2 p3
      exact ⟨x, rfl, _, O2, VR_ren q1 p1, q2, q3⟩

end
end Go.Ax
/-
  An abstract machine for Go functions (part 16): one operation, shown against the model's own.
-/
set_option linter.unusedVariables false
set_option linter.unusedSimpArgs false
namespace Go.Ax

section
variable {P : Program} {G : Env} {ρ : Lay} {h hr : Heap} {O : Nat → Prop} {w : World}

theorem runV {s : Sem Value} {y : Value} {w' : World} (h : s.run P w = .ok y w') : (do pure (Next.value (← s)) : Sem Next).run P w = .ok (.value y) w' := by simp [h]
theorem runU {s : Sem Unit} {w' : World} (h : s.run P w = .ok () w') : (do s; pure Next.skip : Sem Next).run P w = .ok .skip w' := by simp [h]

def Reads (ρ : Lay) (h : Heap) (O : Nat → Prop) (w : World) (as : List AV) (vs : List Value) : Prop :=
  vs.length = as.length ∧ ∀ (j : Nat) a x, as[j]? = some a → vs[j]? = some x → VR ρ h O w a x

theorem Reads.append {as bs : List AV} {vs us : List Value} (h1 : Reads ρ h O w as vs) (h2 : Reads ρ h O w bs us) : Reads ρ h O w (as ++ bs) (vs ++ us) := by
  refine ⟨by simp [h1.1, h2.1], fun j a x ha hx => ?_⟩
  by_cases hj : j < as.length
  · rw [List.getElem?_append_left hj] at ha
    rw [List.getElem?_append_left (by rw [h1.1]; exact hj)] at hx
    exact h1.2 j a x ha hx
  · rw [List.getElem?_append_right (by omega)] at ha
    rw [List.getElem?_append_right (by rw [h1.1]; omega), h1.1] at hx
    exact h2.2 _ a x ha hx

theorem Reads.map {f : Operand → AV} {g : Operand → Value} {l : List Operand} (hop : ∀ x ∈ l, VR ρ h O w (f x) (g x)) : Reads ρ h O w (l.map f) (l.map g) := by
  refine ⟨by simp, fun j a x ha hx => ?_⟩
  rw [List.getElem?_map] at ha hx
  obtain ⟨z, hz, rfl⟩ := Option.map_eq_some_iff.1 ha
  rw [hz] at hx
  simp at hx
  subst hx
  exact hop z (List.mem_of_getElem? hz)

theorem Reads.lits (vs : List Value) : Reads ρ h O w (vs.map .lit) vs := by
  refine ⟨by simp, fun j a x ha hx => ?_⟩
  rw [List.getElem?_map, hx] at ha
  simp at ha
  subst ha
  exact VR.ofLit x

theorem run_callFunc_body {g : FuncId} {fn : Func} {vals : Array Value} (h1 : P.funcs[g]? = some fn) (h2 : (fn.name == "runtime.NumGoroutine") = false) (h3 : fn.body.isNone = false) :
    (callFunc g vals).run P w = .ok (.enter g vals) w := by
  simp only [callFunc, program, Sem.run_bind, Sem.run, Result.andThen, h1, h2, h3, Bool.false_eq_true, if_false]
  try rfl

theorem callee_sound {f : Operand → AV} {g : Operand → Value} {c : Call} {q : FuncId} {as : List AV} (ty : TypeId) (hop : ∀ x ∈ c.operands.toList, VR ρ h O w (f x) (g x)) (he : calleeE P f c = some (q, as)) :
    ∃ vals : List Value, Reads ρ h O w as vals ∧ ∀ fn, P.funcs[q]? = some fn → (fn.name == "runtime.NumGoroutine") = false → fn.body.isNone = false →
      (do let d ← resolve g c ty; invoke d.target d.args : Sem Next).run P w = .ok (.enter q vals.toArray) w := by
  have hargs : Reads ρ h O w (c.args.toList.map f) (c.args.toList.map g) := Reads.map fun x hx => hop x (by simp [Call.operands]; cases c.callee <;> simp_all)
  unfold calleeE at he
  split at he
  · rename_i x hc
    have hx := hop x (by simp [Call.operands, hc])
    split at he
    · rename_i q' fs cp hfx
      cases he
      rw [hfx] at hx
      have hgx := VR_lit hx
      refine ⟨fs.toList ++ c.args.toList.map g ++ cp.toList, (Reads.append (Reads.append (Reads.lits _) hargs) (Reads.lits _)), fun fn h1 h2 h3 => ?_⟩
      simp only [resolve, hc, hgx, Deferred.ofValue, pure_bind, invoke]
      rw [run_callFunc_body h1 h2 h3]
      congr 2
      simp
      try (apply Array.ext'; simp)
    · rename_i q' fs cp hfx
      cases he
      rw [hfx] at hx
      obtain ⟨vf, vc, hgx, l1, l2, v1, v2⟩ := VR_clo hx
      refine ⟨vf.toList ++ c.args.toList.map g ++ vc.toList, (Reads.append (Reads.append ⟨by simp [l1], fun j a x ha hx => v1 j a x ha (by simpa using hx)⟩ hargs) ⟨by simp [l2], fun j a x ha hx => v2 j a x ha (by simpa using hx)⟩), fun fn h1 h2 h3 => ?_⟩
      simp only [resolve, hc, hgx, Deferred.ofValue, pure_bind, invoke]
      rw [run_callFunc_body h1 h2 h3]
      congr 2
      simp
      try (apply Array.ext'; simp)
    · cases he
  · rename_i x name hc
    have hx := hop x (by simp [Call.operands, hc])
    split at he
    · rename_i t v hfx
      rw [hfx] at hx
      obtain ⟨u, hgx, hu⟩ := VR_ifc hx
      split at he
      · rename_i m hm
        cases hp : m.path.isEmpty with
        | false => simp [hp] at he
        | true =>
          simp only [hp, cond_true] at he
          cases hi : P.info? t with
          | none => simp [hi] at hm
          | some inf =>
          simp only [hi, Option.bind_some] at hm
          have hpath : m.path.toList = [] := by
            have := Array.isEmpty_iff.1 hp
            rw [this]
          have key : ∀ (q : FuncId) (b : Bool) (d : TypeDesc), m.func = some (q, b) → P.underlying t = some d → ((∃ e, d = .pointer e) ∧ b = true ∨ (∀ e, d ≠ .pointer e) ∧ b = false) →
              ∃ vals : List Value, Reads ρ h O w (v :: c.args.toList.map f) vals ∧ ∀ fn, P.funcs[q]? = some fn → (fn.name == "runtime.NumGoroutine") = false → fn.body.isNone = false →
                (do let d ← resolve g c ty; invoke d.target d.args : Sem Next).run P w = .ok (.enter q vals.toArray) w := fun q b d hf hd hb => by
            refine ⟨u :: c.args.toList.map g, Reads.append (as := [v]) (vs := [u]) ⟨rfl, fun j a x ha hx => ?_⟩ hargs, fun fn h1 h2 h3 => ?_⟩
            · cases j with
              | zero => simp at ha hx; subst ha; subst hx; exact hu
              | succ j => simp at ha
            · have hmeth : (method (P.types.size + Made.depth) t u name).run P w = .ok (q, u) w := by
                show (method (P.types.size + 99 + 1) t u name).run P w = _
                rw [method]
                rcases hb with ⟨⟨e, rfl⟩, rfl⟩ | ⟨hd', rfl⟩
                · simp [typeInfo, hi, hm, hpath, follow, hf, receiverAt, run_underlying hd, Place.get]
                · cases d <;> first | exact absurd rfl (hd' _) | simp [typeInfo, hi, hm, hpath, follow, hf, receiverAt, run_underlying hd, Place.get]
              have hget : (#[Value.iface t u] ++ c.args.map g)[0]? = some (Value.iface t u) := by rw [Array.getElem?_append_left (by simp)]; rfl
              have hext : #[u] ++ (#[Value.iface t u] ++ c.args.map g).extract 1 (#[Value.iface t u] ++ c.args.map g).size = (u :: c.args.toList.map g).toArray := by
                apply Array.ext'
                simp
                rw [List.take_of_length_le (by simp)]
              simp only [resolve, hc, hgx, pure_bind, invoke, hget, callMethod, Sem.run_bind, program, Sem.run, Result.andThen, hmeth]
              rw [hext, run_callFunc_body h1 h2 h3]
          split at he
          · rename_i q' e hf hd
            cases he
            exact key _ _ _ hf hd (.inl ⟨⟨e, rfl⟩, rfl⟩)
          · cases he
          · rename_i q' d hn hf hd
            cases he
            exact key _ _ _ hf hd (.inr ⟨fun e he => hn e he, rfl⟩)
          · cases he
      · cases he
    · cases he
  · cases he

theorem noOrc_spec {orc orc' : List Orc} {e : Ev} {v : AV} {us : List (Nat × Row)} {c : List Prop} (h : noOrc orc e = some (v, us, c, orc')) : e = some (v, us, c) ∧ orc' = orc := by
  unfold noOrc at h
  cases e with
  | none => simp at h
  | some x => obtain ⟨a, b, d⟩ := x; simp at h; obtain ⟨rfl, rfl, rfl, rfl⟩ := h; exact ⟨rfl, rfl⟩
theorem quiet_spec {orc orc' : List Orc} {e : Option (AV × List Prop)} {v : AV} {us : List (Nat × Row)} {c : List Prop} (h : quiet orc e = some (v, us, c, orc')) : e = some (v, c) ∧ us = [] ∧ orc' = orc := by
  unfold quiet at h
  cases e with
  | none => simp at h
  | some x => obtain ⟨a, b⟩ := x; simp at h; obtain ⟨rfl, rfl, rfl, rfl⟩ := h; exact ⟨rfl, rfl, rfl⟩
theorem still_spec {orc orc' : List Orc} {e : Option AV} {v : AV} {us : List (Nat × Row)} {c : List Prop} (h : still orc e = some (v, us, c, orc')) : e = some v ∧ us = [] ∧ c = [] ∧ orc' = orc := by
  unfold still at h
  cases e with
  | none => simp at h
  | some x => simp at h; obtain ⟨rfl, rfl, rfl, rfl⟩ := h; exact ⟨rfl, rfl, rfl, rfl⟩

theorem candE_spec {e : TypeId} {n : Nat} {x : List UInt8} : ∀ {cs : List AV} {l : List (Nat × List UInt8)} {off : Nat}, candE hr e cs = some l → nth l off = some (n, x) →
    ∃ id c, nth cs off = some (.own id 0 n c) ∧ hr id = some (.bytes e x) ∧ id ∈ candIds cs
  | [], l, off, h, hn => by simp only [candE, Option.some.injEq] at h; subst h; simp [nth] at hn
  | c :: cs, l, off, h, hn => by
    unfold candE at h
    split at h
    · cases ‹_ :: _ = []›
    · rename_i id len cp l' heq
      cases heq
      split at h
      · rename_i e' bs hid
        cases hb : Nat.beq e e' with
        | false => simp [hb] at h
        | true =>
          simp only [hb, cond_true] at h
          obtain ⟨l2, h1, h2⟩ := Option.map_eq_some_iff.1 h
          subst h2
          have he := Nat.eq_of_beq_eq_true hb
          subst he
          cases off with
          | zero =>
            simp only [nth, Option.some.injEq, Prod.mk.injEq] at hn
            obtain ⟨rfl, rfl⟩ := hn
            exact ⟨id, _, rfl, hid, by simp [candIds]⟩
          | succ off =>
            obtain ⟨id', c', g1, g2, g3⟩ := candE_spec h1 hn
            exact ⟨id', c', g1, g2, by simp [candIds, g3]⟩
      · cases h
    · cases h

theorem candE_live {e : TypeId} : ∀ {cs : List AV} {l : List (Nat × List UInt8)}, candE hr e cs = some l → ∀ id ∈ candIds cs, ∃ r, hr id = some r ∧ r.live = true
  | [], l, h, id, hm => by simp [candIds] at hm
  | c :: cs, l, h, id, hm => by
    unfold candE at h
    split at h
    · cases ‹_ :: _ = []›
    · rename_i id0 len cp l' heq
      cases heq
      split at h
      · rename_i e' bs hid
        cases hb : Nat.beq e e' with
        | false => simp [hb] at h
        | true =>
          simp only [hb, cond_true] at h
          obtain ⟨l2, h1, h2⟩ := Option.map_eq_some_iff.1 h
          simp only [candIds, List.mem_cons] at hm
          rcases hm with rfl | hm
          · exact ⟨_, hid, rfl⟩
          · exact candE_live h1 id hm
      · cases h
    · cases h

theorem look_gone {ids : List Nat} {id : Nat} : lookL (ids.map (fun i => (i, Row.gone))) id = if id ∈ ids then some .gone else none := by
  induction ids with
  | nil => simp [lookL]
  | cons a l ih =>
    simp only [List.map_cons, lookL, ih]
    by_cases h : a = id
    · subst h; simp
    · have : Nat.beq a id = false := by cases hb : Nat.beq a id with | false => rfl | true => exact absurd (Nat.eq_of_beq_eq_true hb) h
      have h' : ¬ id = a := fun e => h e.symm
      simp [this, h']

theorem pickRow_sound {t : TypeId} {a : AV} {x : Value} {v : AV} {us : List (Nat × Row)} {c : List Prop} {n fr : Nat} {bs : List UInt8} (S : Sim G ρ h O w) (hsub : ∀ id r, hr id = some r → h id = some r) (hfr : h fr = none)
    (ha : VR ρ h O w a x) (he : pickRowE P t a n bs hr fr = some (v, us, c)) (hC : AllP c) : ∃ y, (Instr.loadAt t x).run P w = .ok y w ∧ Post G ρ h O w v us y w := by
  unfold pickRowE at he
  split at he
  · rename_i id off
    split at he
    · rename_i e0 sz cs hh
      split at he
      · rename_i id0 o0 l0 c0 rest hag
        split at he
        · rename_i e b0 hid0
          split at he
          · rename_i l hl
            simp only [Option.some.injEq, Prod.mk.injEq] at he
            obtain ⟨rfl, rfl, rfl⟩ := he
            obtain ⟨k, kc, k1, k2, k3⟩ := candE_spec hl hC.1
            obtain ⟨y, r1, r2⟩ := load_sound (P := P) (t := t) (v := .own k 0 n kc) (c := [nth (.own id0 o0 l0 c0 :: rest) off = some (.own k 0 n kc)]) (ov := some (.own k 0 n kc)) S hsub ha (by
              simp only [loadE, hh, hag]) ⟨k1, trivial⟩
            refine ⟨y, r1, ?_⟩
            have hk : h k = some (.bytes e bs) := hsub _ _ k2
            have hkf : k ≠ fr := fun h' => by subst h'; rw [hfr] at hk; cases hk
            generalize hids : candIds (.own id0 o0 l0 c0 :: rest) = ids at k3 hl
            have hlive : ∀ i ∈ ids, ∃ r, h i = some r ∧ r.live = true := fun i hi => by
              obtain ⟨r, q1, q2⟩ := candE_live hl i (hids ▸ hi)
              exact ⟨r, hsub _ _ q1, q2⟩
            have hfi : fr ∉ ids := fun hm => by obtain ⟨r, q, -⟩ := hlive fr hm; rw [hfr] at q; cases q
            let ρ' : Lay := fun j => if j = fr then ρ k else ρ j
            have hh' : ∀ j, (h.upd ((fr, .bytes e bs) :: ids.map (fun i => (i, .gone)))) j = if j = fr then some (.bytes e bs) else if j ∈ ids then some .gone else h j := fun j => by
              simp only [Heap.upd, lookL]
              by_cases hj : j = fr
              · subst hj; simp
              · have : Nat.beq fr j = false := by cases hb : Nat.beq fr j with | false => rfl | true => exact absurd (Nat.eq_of_beq_eq_true hb).symm hj
                simp only [this, cond_false, look_gone, hj, if_false]
                by_cases hm : j ∈ ids <;> simp [hm]
            have F : Fr ρ h O w ρ' (h.upd ((fr, .bytes e bs) :: ids.map (fun i => (i, .gone)))) O w :=
              { os := rfl, tape := rfl, output := rfl, size := Nat.le_refl _, keep := fun _ _ _ => rfl
                dom := fun j r hj => by
                  have hjf : j ≠ fr := fun h' => by subst h'; rw [hfr] at hj; cases hj
                  rw [hh', if_neg hjf]
                  by_cases hm : j ∈ ids
                  · rw [if_pos hm]; exact ⟨_, rfl, fun h' => by cases h'⟩
                  · rw [if_neg hm]; exact ⟨_, hj, fun hlv => ⟨hlv, by simp [ρ', hjf], rfl, rfl, Nat.le_refl _, rfl⟩⟩
                own := fun j r hj hlv => by
                  rw [hh'] at hj
                  by_cases hjf : j = fr
                  · subst hjf; exact .inl ⟨k, _, hk, rfl, by simp [ρ']⟩
                  · rw [if_neg hjf] at hj
                    by_cases hm : j ∈ ids
                    · rw [if_pos hm] at hj; cases hj; cases hlv
                    · rw [if_neg hm] at hj; exact .inl ⟨j, r, hj, hlv, by simp [ρ', hjf]⟩
                old := fun _ h => h
                oldnew := fun b hb => .inl hb }
            have hinj : ∀ i j ri rj, (h.upd ((fr, .bytes e bs) :: ids.map (fun i => (i, .gone)))) i = some ri → (h.upd ((fr, .bytes e bs) :: ids.map (fun i => (i, .gone)))) j = some rj → ri.live = true → rj.live = true → (ρ' i).1 = (ρ' j).1 → i = j := fun i j ri rj hi hj hli hlj hij => by
              rw [hh'] at hi hj
              have old : ∀ i ri, i ≠ fr → (if i = fr then some (.bytes e bs) else if i ∈ ids then some .gone else h i) = some ri → ri.live = true → h i = some ri ∧ i ∉ ids ∧ ρ' i = ρ i := fun i ri hne hi hl => by
                rw [if_neg hne] at hi
                by_cases hm : i ∈ ids
                · rw [if_pos hm] at hi; cases hi; cases hl
                · rw [if_neg hm] at hi; exact ⟨hi, hm, by simp [ρ', hne]⟩
              by_cases hif : i = fr <;> by_cases hjf : j = fr
              · rw [hif, hjf]
              · obtain ⟨q1, q2, q3⟩ := old j rj hjf hj hlj
                subst hif
                rw [q3] at hij
                simp only [ρ', if_true] at hij
                have := S.inj k j _ _ hk q1 rfl hlj hij
                subst this
                exact absurd k3 q2
              · obtain ⟨q1, q2, q3⟩ := old i ri hif hi hli
                subst hjf
                rw [q3] at hij
                simp only [ρ', if_true] at hij
                have := S.inj i k _ _ q1 hk hli rfl hij
                subst this
                exact absurd k3 q2
              · obtain ⟨q1, q2, q3⟩ := old i ri hif hi hli
                obtain ⟨g1, g2, g3⟩ := old j rj hjf hj hlj
                rw [q3, g3] at hij
                exact S.inj i j _ _ q1 g1 hli hlj hij
            refine ⟨ρ', O, ?_, S.step F (fun j r hj hlv => ?_) hinj (fun j r hj hlv => ?_) S.lt, F⟩
            · cases r2 with
              | dr hd => cases hd
              | own h1 h2 h3 h4 h5 h6 h7 h8 h9 h10 h11 h12 =>
                rw [hk] at h1
                cases h1
                exact .own (r := .bytes e bs) (by rw [hh', if_pos rfl]) rfl rfl h4 h5 (by simp only [ρ', if_true]; exact h6) (by simp only [ρ', if_true]; intro hp; rcases hp with hp | ⟨_, hh, _⟩; exact h7 (.inl hp); cases hh) h8 h9 (by simp only [ρ', if_true]; exact h10) h11 (fun c' hh => by cases hh)
              | ownGone h1 h2 => rw [hk] at h1; cases h1; cases h2
            · rw [hh'] at hj
              by_cases hjf : j = fr
              · subst hjf
                rw [if_pos rfl] at hj
                cases hj
                obtain ⟨cur, g1, g2, g3⟩ := S.rows k _ hk
                refine .inr ⟨cur, by simp only [ρ', if_true]; exact g1, by simp only [ρ', if_true]; exact g2, fun i b hb => ?_⟩
                obtain ⟨z, q1, q2⟩ := g3 i b hb
                exact ⟨z, by simp only [ρ', if_true]; exact q1, VR_mono S F q2⟩
              · rw [if_neg hjf] at hj
                by_cases hm : j ∈ ids
                · rw [if_pos hm] at hj; cases hj; cases hlv
                · rw [if_neg hm] at hj
                  exact .inl ⟨hj, by simp [ρ', hjf], rfl⟩
            · rw [hh'] at hj
              by_cases hjf : j = fr
              · subst hjf; simp only [ρ', if_true]; exact S.notO k _ hk rfl
              · rw [if_neg hjf] at hj
                by_cases hm : j ∈ ids
                · rw [if_pos hm] at hj; cases hj; cases hlv
                · rw [if_neg hm] at hj
                  simp only [ρ', hjf, if_false]
                  exact S.notO j r hj hlv
          · cases he
        · cases he
      · cases he
    · cases he
  · cases he

theorem VR_opt {p : Bool} {a : AV} {x : Value} (hv : VR ρ h O w (.opt p a) x) (hp : p = true) : VR ρ h O w a x := by
  cases hv with
  | dr hd => cases hd with | opt h1 h2 => exact .dr (h1 hp)
  | opt h1 h2 => exact h1 hp

theorem VR_opt_undef {p : Bool} {a : AV} {x : Value} (hv : VR ρ h O w (.opt p a) x) (hp : p = false) : x = undef := by
  cases hv with
  | dr hd => cases hd with | opt h1 h2 => exact h2 hp
  | opt h1 h2 => exact h2 hp

theorem VR_force {a : AV} {x : Value} (hv : VR ρ h O w a x) (hC : AllP (forceC a)) : VR ρ h O w a.force x := by
  cases a with
  | opt p v => exact VR_opt hv hC.1
  | _ => exact hv

theorem pick_sound {c a b : AV} {x y z : Value} {v : AV} {us : List (Nat × Row)} {C : List Prop} (S : Sim G ρ h O w) (hc : VR ρ h O w c x) (ha : VR ρ h O w a y) (hb : VR ρ h O w b z)
    (he : pickE c a b = some (v, us, C)) (hC : AllP C) :
    ∃ u, (do pure (Next.value (if ← asBool x then y else z)) : Sem Next).run P w = .ok (.value u) w ∧ Post G ρ h O w v us u w := by
  unfold pickE at he
  split at he
  · rename_i t
    have hx := VR_lit hc
    subst hx
    refine ⟨if t then y else z, by simp [asBool], ?_⟩
    split at he
    · rename_i p q
      cases he
      have := VR_lit ha; subst this
      have := VR_lit hb; subst this
      cases t <;> exact post_pure S (VR.ofLit _)
    · rename_i q p p'
      cases he
      have := VR_lit hb; subst this
      cases t with
      | false => exact post_pure S (VR.ofLit _)
      | true => have := VR_lit (VR_opt ha (hC.1 rfl)); subst this; exact post_pure S (VR.ofLit _)
    · rename_i p q p'
      cases he
      have := VR_lit ha; subst this
      cases t with
      | true => exact post_pure S (VR.ofLit _)
      | false => have := VR_lit (VR_opt hb (hC.1 rfl)); subst this; exact post_pure S (VR.ofLit _)
    · cases he
      cases t with
      | true => have := VR_lit (VR_opt ha (hC.1 rfl)); subst this; exact post_pure S (VR.ofLit _)
      | false => have := VR_lit (VR_opt hb (hC.2.1 rfl)); subst this; exact post_pure S (VR.ofLit _)
    · cases hub : isUndef b with
      | true =>
        simp only [hub, cond_true, Option.some.injEq, Prod.mk.injEq] at he
        obtain ⟨rfl, rfl, rfl⟩ := he
        rw [hC.1]
        exact post_pure S ha
      | false =>
        simp only [hub, cond_false] at he
        cases hua : isUndef a with
        | true =>
          simp only [hua, cond_true, Option.some.injEq, Prod.mk.injEq] at he
          obtain ⟨rfl, rfl, rfl⟩ := he
          rw [hC.1]
          exact post_pure S hb
        | false => simp [hua] at he
  · cases he

/-- ONE OPERATION. -/
theorem evOp_sound {o : Oper} {f : Operand → AV} {g : Operand → Value} {fr : Nat} {orc orc' : List Orc} {v : AV} {us : List (Nat × Row)} {c : List Prop} (S : Sim G ρ h O w)
    (hsub : ∀ id r, hr id = some r → h id = some r) (hfr : ∀ i, fr ≤ i → i < fr + 64 → h i = none) (hop : ∀ x ∈ o.op.operands.toList, VR ρ h O w (f x) (g x))
    (he : evOp P G o f hr fr orc = some (v, us, c, orc')) (hC : AllP c) : RunsTo P (execOp g o) w (Post G ρ h O w v us) := by
  have hfr0 : h fr = none := hfr fr (Nat.le_refl _) (by omega)
  have pureCase : ∀ {orc1}, noOrc orc1 (evPure P o f) = some (v, us, c, orc') → RunsTo P (execOp g o) w (Post G ρ h O w v us) := fun hp => evPure_sound S hop (noOrc_spec hp).1
  have ofV : ∀ {s : Sem Value} {x : Value}, execOp g o = (do pure (Next.value (← s))) → s.run P w = .ok x w → VR ρ h O w v x → us = [] → RunsTo P (execOp g o) w (Post G ρ h O w v us) := fun e r hv hu => by
    subst hu; rw [e]; exact .inl ⟨_, _, runV r, post_pure S hv⟩
  have ofW : ∀ {s : Sem Value}, execOp g o = (do pure (Next.value (← s))) → (∃ x w', s.run P w = .ok x w' ∧ Post G ρ h O w v us x w') → RunsTo P (execOp g o) w (Post G ρ h O w v us) := fun e r => by
    obtain ⟨x, w', r, hv⟩ := r; rw [e]; exact .inl ⟨_, _, runV r, hv⟩
  obtain ⟨dst, op, type, pos, after, guard⟩ := o
  have one : ∀ (x : Operand), op.operands = #[x] → VR ρ h O w (f x) (g x) := fun x hx => hop x (by simp [hx])
  have two : ∀ (x y : Operand), op.operands = #[x, y] → VR ρ h O w (f x) (g x) ∧ VR ρ h O w (f y) (g y) := fun x y hx => ⟨hop x (by simp [hx]), hop y (by simp [hx])⟩
  cases op with
  | move x => simp only [evOp, Option.some.injEq, Prod.mk.injEq] at he; obtain ⟨rfl, rfl, rfl, rfl⟩ := he; exact .inl ⟨_, _, rfl, post_pure S (one x rfl)⟩
  | assign x => simp only [evOp, Option.some.injEq, Prod.mk.injEq] at he; obtain ⟨rfl, rfl, rfl, rfl⟩ := he; exact .inl ⟨_, _, rfl, post_pure S (one x rfl)⟩
  | pick cc a b =>
    simp only [evOp] at he
    obtain ⟨u, h1, h2⟩ := pick_sound S (hop cc (by simp [Op.operands])) (hop a (by simp [Op.operands])) (hop b (by simp [Op.operands])) (noOrc_spec he).1 hC
    exact .inl ⟨u, w, h1, h2⟩
  | alloc t => simp only [evOp] at he; exact ofW rfl (alloc_sound S hfr0 (noOrc_spec he).1)
  | box t x => simp only [evOp] at he; exact ofW rfl (box_sound S hfr0 (one x rfl) (noOrc_spec he).1)
  | build t parts =>
    simp only [evOp] at he
    exact ofW rfl (build_sound S (fun p hp => hop p.2 (by simp [Op.operands]; exact ⟨_, by simpa using hp⟩)) (noOrc_spec he).1)
  | buildSlice t len parts =>
    simp only [evOp] at he
    exact ofW rfl (buildSlice_sound S hfr0 (fun p hp => hop p.2 (by simp [Op.operands]; exact ⟨_, by simpa using hp⟩)) (noOrc_spec he).1 hC)
  | load t a =>
    simp only [evOp] at he
    have : (∃ ov, loadE P G t (f a) hr ov = some (v, c) ∧ us = []) ∨ ∃ n x, pickRowE P t (f a) n x hr fr = some (v, us, c) := by
      split at he
      · obtain ⟨e1, e2, e3⟩ := quiet_spec he; exact .inl ⟨_, e1, e2⟩
      · exact .inr ⟨_, _, (noOrc_spec he).1⟩
      · obtain ⟨e1, e2, e3⟩ := quiet_spec he; exact .inl ⟨_, e1, e2⟩
    rcases this with ⟨ov, e1, e2⟩ | ⟨n, x, e1⟩
    · obtain ⟨y, r1, r2⟩ := load_sound S hsub (one a rfl) e1 hC
      exact ofV rfl r1 r2 e2
    · obtain ⟨y, r1, r2⟩ := pickRow_sound S hsub hfr0 (one a rfl) e1 hC
      exact .inl ⟨_, _, runV r1, r2⟩
  | store t a x =>
    simp only [evOp] at he
    obtain ⟨w', r1, r2⟩ := store_sound S hsub (two a x rfl).1 (two a x rfl).2 (noOrc_spec he).1 hC
    exact .inr (.inl ⟨w', runU r1, r2⟩)
  | nilCheck x =>
    have hx := one x rfl
    simp only [evOp] at he
    split at he
    · rename_i i k hfx
      cases hl : liveAt hr i with
      | false => simp [hl] at he
      | true =>
        simp only [hl, cond_true, Option.some.injEq, Prod.mk.injEq] at he
        obtain ⟨rfl, rfl, rfl, rfl⟩ := he
        rw [hfx] at hx
        have : ∃ r, h i = some r ∧ r.live = true := by
          unfold liveAt at hl
          split at hl
          · rename_i hh; exact ⟨_, hsub _ _ hh, rfl⟩
          · rename_i hh; exact ⟨_, hsub _ _ hh, rfl⟩
          · cases hl
        obtain ⟨r, h1, h2⟩ := this
        have hgx := VR_ptr hx h1 h2
        exact .inl ⟨g x, w, by simp [execOp, hgx], post_pure S hx⟩
    · rename_i cs k hfx
      simp only [Option.some.injEq, Prod.mk.injEq] at he
      obtain ⟨rfl, rfl, rfl, rfl⟩ := he
      rw [hfx] at hx
      refine .inl ⟨g x, w, ?_, post_pure S hx⟩
      have hgx : ∃ ad, g x = .pointer (some ad) := by
        generalize g x = y at hx
        cases hx with
        | dr hd => cases hd with | rp val h1 h2 h3 => exact ⟨_, rfl⟩
      obtain ⟨ad, hgx⟩ := hgx
      simp [execOp, hgx]
    · rename_i t u hfx
      simp only [Option.some.injEq, Prod.mk.injEq] at he
      obtain ⟨rfl, rfl, rfl, rfl⟩ := he
      rw [hfx] at hx
      obtain ⟨y, hgx, _⟩ := VR_ifc hx
      exact .inl ⟨g x, w, by simp [execOp, hgx], post_pure S hx⟩
    · rename_i q a b hfx
      simp only [Option.some.injEq, Prod.mk.injEq] at he
      obtain ⟨rfl, rfl, rfl, rfl⟩ := he
      rw [hfx] at hx
      obtain ⟨vf, vc, hgx, _⟩ := VR_clo hx
      exact .inl ⟨g x, w, by simp [execOp, hgx], post_pure S hx⟩
    · exact pureCase he
  | binOp b t x y z =>
    simp only [evOp] at he
    split at he
    · rename_i v' c' hb
      simp only [Option.some.injEq, Prod.mk.injEq] at he
      obtain ⟨rfl, rfl, rfl, rfl⟩ := he
      obtain ⟨u, r1, r2⟩ := bin_sound (xo := x) (yo := y) S hsub (two x y rfl).1 (two x y rfl).2 hb hC
      exact ofV rfl r1 r2 rfl
    · exact pureCase he
  | convert src dst' x =>
    simp only [evOp] at he
    split at he
    · rename_i v' us' c' hb
      simp only [Option.some.injEq, Prod.mk.injEq] at he
      obtain ⟨rfl, rfl, rfl, rfl⟩ := he
      exact ofW rfl (self_sound S hsub (one x rfl) hb)
    split at he
    · rename_i v' c' hb
      simp only [Option.some.injEq, Prod.mk.injEq] at he
      obtain ⟨rfl, rfl, rfl, rfl⟩ := he
      exact ofW rfl (conv_sound S hsub (one x rfl) hb hC)
    · exact pureCase he
  | makeInterface t x =>
    simp only [evOp] at he
    obtain ⟨e1, e2, e3, e4⟩ := still_spec he
    obtain ⟨u, r1, r2⟩ := mkIface_sound (P := P) (one x rfl) e1
    exact ofV rfl r1 r2 e2
  | makeFunc fn first captured =>
    simp only [evOp, Option.some.injEq, Prod.mk.injEq] at he
    obtain ⟨rfl, rfl, rfl, rfl⟩ := he
    refine .inl ⟨.func fn (first.map g) (captured.map g), w, rfl, post_pure S ?_⟩
    have r1 := Reads.map (f := f) (g := g) (ρ := ρ) (h := h) (O := O) (w := w) (l := first.toList) (fun x hx => hop x (by simp [Op.operands]; exact .inl (by simpa using hx)))
    have r2 := Reads.map (f := f) (g := g) (ρ := ρ) (h := h) (O := O) (w := w) (l := captured.toList) (fun x hx => hop x (by simp [Op.operands]; exact .inr (by simpa using hx)))
    refine .clo (by simp) (by simp) (fun j c u hc hu => r1.2 j c u hc ?_) (fun j c u hc hu => r2.2 j c u hc ?_)
    · simpa using hu
    · simpa using hu
  | makeMap t r => simp only [evOp] at he; exact ofW rfl (makeMap_sound S hfr0 (noOrc_spec he).1)
  | makeSlice t l cc =>
    simp only [evOp] at he
    exact ofW rfl (makeSlice_sound S hfr0 (two l cc rfl).1 (two l cc rfl).2 (noOrc_spec he).1 hC)
  | slice t x lo hi mx =>
    simp only [evOp] at he
    obtain ⟨e1, e2, e3⟩ := quiet_spec he
    obtain ⟨u, r1, r2⟩ := slice_sound (g := g) S hsub (hop x (by simp [Op.operands])) (fun z hz => hop z (by cases hz; simp [Op.operands])) (fun z hz => hop z (by cases hz; simp [Op.operands])) (fun z hz => hop z (by cases hz; simp [Op.operands])) e1 hC
    exact ofV rfl r1 r2 e2
  | fieldAddr s x k =>
    simp only [evOp] at he
    split at he
    · rename_i v' hb
      simp only [Option.some.injEq, Prod.mk.injEq] at he
      obtain ⟨rfl, rfl, rfl, rfl⟩ := he
      obtain ⟨u, r1, r2⟩ := fieldAddr_sound S hsub (one x rfl) hb
      exact ofV rfl r1 r2 rfl
    · exact pureCase he
  | field t x k =>
    simp only [evOp] at he
    split at he
    · rename_i v' hb
      simp only [Option.some.injEq, Prod.mk.injEq] at he
      obtain ⟨rfl, rfl, rfl, rfl⟩ := he
      obtain ⟨u, r1, r2⟩ := field_sound (one x rfl) hb
      exact ofV rfl r1 r2 rfl
    · exact pureCase he
  | indexAddr t x i =>
    simp only [evOp] at he
    obtain ⟨e1, e2, e3⟩ := quiet_spec he
    obtain ⟨u, r1, r2⟩ := indexAddr_sound S hsub (two x i rfl).1 (two x i rfl).2 e1 hC
    exact ofV rfl r1 r2 e2
  | index t x i =>
    simp only [evOp] at he
    obtain ⟨e1, e2, e3⟩ := quiet_spec he
    obtain ⟨u, r1, r2⟩ := index_sound (two x i rfl).1 (two x i rfl).2 e1 hC
    exact ofV rfl r1 r2 e2
  | lookup t m i ok =>
    simp only [evOp] at he
    obtain ⟨e1, e2, e3, e4⟩ := still_spec he
    obtain ⟨u, r1, r2⟩ := lookup_sound S hsub (two m i rfl).1 (two m i rfl).2 e1
    exact ofV rfl r1 r2 e2
  | insert t m k x =>
    simp only [evOp] at he
    obtain ⟨w', r1, r2⟩ := insert_sound S hsub (hop m (by simp [Op.operands])) (hop k (by simp [Op.operands])) (hop x (by simp [Op.operands])) (noOrc_spec he).1 hC
    exact .inr (.inl ⟨w', runU r1, r2⟩)
  | mapUpdate t m k x =>
    simp only [evOp] at he
    obtain ⟨w', r1, r2⟩ := insert_sound S hsub (hop m (by simp [Op.operands])) (hop k (by simp [Op.operands])) (hop x (by simp [Op.operands])) (noOrc_spec he).1 hC
    exact .inr (.inl ⟨w', runU r1, r2⟩)
  | typeAssert x xt asserted ok =>
    simp only [evOp] at he
    split at he
    · rename_i v' hb
      simp only [Option.some.injEq, Prod.mk.injEq] at he
      obtain ⟨rfl, rfl, rfl, rfl⟩ := he
      obtain ⟨u, r1, r2⟩ := assert_sound (xt := xt) (one x rfl) hb
      exact ofV rfl r1 r2 rfl
    · exact pureCase he
  | extract x i =>
    simp only [evOp] at he
    split at he
    · rename_i v' hb
      simp only [Option.some.injEq, Prod.mk.injEq] at he
      obtain ⟨rfl, rfl, rfl, rfl⟩ := he
      obtain ⟨u, r1, r2⟩ := extract_sound (P := P) (one x rfl) hb
      exact ofV rfl r1 r2 rfl
    · exact pureCase he
  | call cl =>
    obtain ⟨callee, args, argTypes⟩ := cl
    have hcase : (∃ b, callee = .builtin b) ∨ (∀ b, callee ≠ .builtin b) := by cases callee <;> simp
    rcases hcase with ⟨b, rfl⟩ | hnb
    · have hex : ∀ (s : Sem Value), (builtin b argTypes type (args.map fun | .const _ => true | _ => false) (args.map g)) = (do pure (Next.value (← s))) →
          execOp g ⟨dst, .call ⟨.builtin b, args, argTypes⟩, type, pos, after, guard⟩ = (do pure (Next.value (← s))) := fun s hs => hs
      have hopl : ∀ x ∈ args.toList, VR ρ h O w (f x) (g x) := fun x hx => hop x (by simp [Op.operands, Call.operands]; simpa using hx)
      cases b with
      | len =>
        simp only [evOp] at he
        split at he
        · rename_i x t ha ht
          have ha' : args = #[x] := by apply Array.ext'; simpa using ha
          have ht' : argTypes = #[t] := by apply Array.ext'; simpa using ht
          subst ha'; subst ht'
          split at he
          · rename_i v' k hb
            simp only [Option.some.injEq, Prod.mk.injEq] at he
            obtain ⟨rfl, rfl, rfl, rfl⟩ := he
            obtain ⟨u, r1, r2⟩ := len_sound (P := P) (ty := type) S hsub (hopl x (by simp)) hb
            exact ofV (s := Builtin.len_ #[t] type #[g x]) (hex _ (by simp [builtin])) r1 r2 rfl
          · exact pureCase he
        · cases he
      | cap =>
        simp only [evOp] at he
        split at he
        · rename_i x t ha ht
          have ha' : args = #[x] := by apply Array.ext'; simpa using ha
          have ht' : argTypes = #[t] := by apply Array.ext'; simpa using ht
          subst ha'; subst ht'
          split at he
          · rename_i v' hb
            simp only [Option.some.injEq, Prod.mk.injEq] at he
            obtain ⟨rfl, rfl, rfl, rfl⟩ := he
            obtain ⟨u, r1, r2⟩ := cap_sound (P := P) (ty := type) S hsub (hopl x (by simp)) hb
            exact ofV (s := Builtin.cap_ #[t] type #[g x]) (hex _ (by simp [builtin])) r1 r2 rfl
          · exact pureCase he
        · cases he
      | append =>
        simp only [evOp] at he
        split at he
        · rename_i s x t xt ha ht
          have ha' : args = #[s, x] := by apply Array.ext'; simpa using ha
          have ht' : argTypes = #[t, xt] := by apply Array.ext'; simpa using ht
          subst ha'; subst ht'
          have : ∃ bit, appendE P t xt (f s) (f x) hr fr bit = some (v, us, c) := by
            split at he
            · split at he
              · exact ⟨_, (noOrc_spec he).1⟩
              · cases he
            · exact ⟨_, (noOrc_spec he).1⟩
          obtain ⟨bit, hb⟩ := this
          exact ofW (s := Builtin.append_ #[t, xt] type #[g s, g x]) (hex _ (by simp [builtin])) (append_sound S hsub hfr0 (hopl s (by simp)) (hopl x (by simp)) hb hC)
        · cases he
      | copy =>
        simp only [evOp] at he
        split at he
        · rename_i s x t xt ha ht
          have ha' : args = #[s, x] := by apply Array.ext'; simpa using ha
          have ht' : argTypes = #[t, xt] := by apply Array.ext'; simpa using ht
          subst ha'; subst ht'
          exact ofW (s := Builtin.copy_ #[t, xt] type #[g s, g x]) (hex _ (by simp [builtin])) (copy_sound S hsub (hopl s (by simp)) (hopl x (by simp)) (noOrc_spec he).1)
        · cases he
      | _ => simp only [evOp] at he; exact pureCase he
    · have he0 : (bif externB P f ⟨callee, args, argTypes⟩ then noOrc orc (evPure P ⟨dst, .call ⟨callee, args, argTypes⟩, type, pos, after, guard⟩ f) else (match (generalizing := false) orc with
        | .call L args' H ret H' :: orc'' =>
          match (generalizing := false) calleeE P f ⟨callee, args, argTypes⟩ with
          | some (q, as) => noOrc orc'' (callE P G q as hr fr L args' H ret H')
          | none => none
        | _ => noOrc orc (evPure P ⟨dst, .call ⟨callee, args, argTypes⟩, type, pos, after, guard⟩ f))) = some (v, us, c, orc') := by
        cases callee with
        | builtin b => exact absurd rfl (hnb b)
        | value x => exact he
        | invoke x n => exact he
      cases hxt : externB P f ⟨callee, args, argTypes⟩ with
      | true => rw [hxt, cond_true] at he0; exact pureCase he0
      | false =>
      have he' := he0
      rw [hxt, cond_false] at he'
      split at he'
      · split at he'
        · rename_i q as hq
          obtain ⟨e1, e2⟩ := noOrc_spec he'
          obtain ⟨vals, hv, hrun⟩ := callee_sound type (fun x hx => hop x (by simpa [Op.operands] using hx)) hq
          obtain ⟨⟨fn, k1, k2, k3⟩, hcalls⟩ := call_sound S hsub hfr hv.1 hv.2 e1 hC
          exact .inr (.inr ⟨q, vals.toArray, hrun fn k1 k2 k3, hcalls⟩)
        · cases he'
      · exact pureCase he'
  | _ => simp only [evOp] at he; exact pureCase he

end
end Go.Ax
/-
  An abstract machine for Go functions (part 17): one step of a region; a region in the order of its text.
-/
set_option linter.unusedVariables false
set_option linter.unusedSimpArgs false
namespace Go.Ax

section
variable {P : Program} {G : Env} {ρ ρ' : Lay} {h hr h' : Heap} {O O' : Nat → Prop} {w w' : World}

/-- The slots of an activation. -/
def Slots (ρ : Lay) (h : Heap) (O : Nat → Prop) (w : World) (n : Nat) (tm : Nat → AV) (a : Act) : Prop :=
  a.tmps.size = n ∧ ∀ t, VR ρ h O w (tm t) (a.tmps.getD t undef)

theorem Slots.mono {n : Nat} {tm : Nat → AV} {a : Act} (S : Sim G ρ h O w) (F : Fr ρ h O w ρ' h' O' w') (hs : Slots ρ h O w n tm a) : Slots ρ' h' O' w' n tm a :=
  ⟨hs.1, fun t => VR_mono S F (hs.2 t)⟩

theorem Slots.put {n : Nat} {tm : Nat → AV} {a : Act} {dst : Option Nat} {v : AV} {x : Value} (hs : Slots ρ h O w n tm a) (hd : dstOk n dst = true) (hv : VR ρ h O w v x) :
    Slots ρ h O w n (putT tm dst v) (a.put dst x) := by
  cases dst with
  | none => exact hs
  | some d =>
    have hlt : d < n := Nat.blt_eq.mp hd
    refine ⟨by simp [Act.put, hs.1], fun t => ?_⟩
    simp only [putT, Act.put]
    cases hb : Nat.beq t d with
    | true =>
      have := Nat.eq_of_beq_eq_true hb
      subst this
      simp only [cond_true]
      rw [Array.getD_eq_getD_getElem?, Array.getElem?_setIfInBounds_self_of_lt (by rw [hs.1]; exact hlt)]
      exact hv
    | false =>
      have hne : d ≠ t := fun e => by subst e; simp at hb
      simp only [cond_false]
      rw [Array.getD_eq_getD_getElem?, Array.getElem?_setIfInBounds_ne hne, ← Array.getD_eq_getD_getElem?]
      exact hs.2 t

theorem Slots.eval {n : Nat} {tm : Nat → AV} {a : Act} (hs : Slots ρ h O w n tm a) (x : Operand) : VR ρ h O w (evX tm x) (a.eval x) := by
  cases x with
  | tmp t => exact hs.2 t
  | const v => exact VR.ofLit v
  | global g => exact VR.ofLit _
  | func f => exact VR.ofLit _

theorem wantedP {ops : Array Oper} {j d : Nat} {want p bb : Bool} {a : Act} (hd : (ops[j]?).bind (·.dst) = some d) (hv : VR ρ h O w (.opt p (.lit (.bool bb))) (a.tmps.getD d undef)) :
    (yielded ops a.tmps j == some want) = (p && (bif want then bb else !bb)) := by
  have hy : ∀ (x : Value), a.tmps.getD d undef = x → (∀ b, x ≠ .bool b) → yielded ops a.tmps j = none := fun x hx hn => by
    simp only [yielded, hd, Option.bind_some]
    cases ht : a.tmps[d]? with
    | none => rfl
    | some y =>
      rw [Array.getD_eq_getD_getElem?, ht] at hx
      simp at hx
      subst hx
      cases y <;> first | rfl | exact absurd rfl (hn _)
  cases p with
  | false => rw [hy _ (VR_opt_undef hv rfl) (fun b e => by cases e)]; rfl
  | true =>
    have hx := VR_lit (VR_opt hv rfl)
    have : yielded ops a.tmps j = some bb := by
      simp only [yielded, hd, Option.bind_some]
      cases ht : a.tmps[d]? with
      | none => rw [Array.getD_eq_getD_getElem?, ht] at hx; simp [undef] at hx
      | some y => rw [Array.getD_eq_getD_getElem?, ht] at hx; simp at hx; subst hx; rfl
    rw [this]
    cases bb <;> cases want <;> rfl

theorem guardE_sound {ops : Array Oper} {o : Oper} {tm : Nat → AV} {a : Act} {orc orc1 : List Orc} {b : Bool} {c : List Prop} (hs : ∀ t ∈ looksAtL ops o, VR ρ h O w (tm t) (a.tmps.getD t undef))
    (he : guardE ops o tm orc = some (b, c, orc1)) (hC : AllP c) : Region.wanted o (yielded ops a.tmps) = b := by
  unfold guardE at he
  unfold Region.wanted
  cases hg : o.guard with
  | none => simp only [hg, Option.some.injEq, Prod.mk.injEq] at he; exact he.1
  | some jw =>
    obtain ⟨j, want⟩ := jw
    simp only [hg] at he ⊢
    rw [nth_eq, Array.getElem?_toList] at he
    cases hd' : (ops[j]?).bind (·.dst) with
    | none => simp [hd'] at he
    | some d =>
      simp only [hd'] at he
      have hv := hs d (by simp [looksAtL, hg, nth_eq, hd'])
      have hy : ∀ (x : Value), a.tmps.getD d undef = x → (∀ b, x ≠ .bool b) → yielded ops a.tmps j = none := fun x hx hn => by
        simp only [yielded, hd', Option.bind_some]
        cases ht : a.tmps[d]? with
        | none => rfl
        | some y =>
          rw [Array.getD_eq_getD_getElem?, ht] at hx
          simp at hx
          subst hx
          cases y <;> first | rfl | exact absurd rfl (hn _)
      split at he
      · rename_i bb htm
        rw [htm] at hv
        have hx := VR_lit hv
        split at he
        · rename_i x orc'
          simp only [Option.some.injEq, Prod.mk.injEq] at he
          obtain ⟨rfl, rfl, rfl⟩ := he
          have hbx : bb = x := hC.1
          subst hbx
          have : yielded ops a.tmps j = some bb := by
            simp only [yielded, hd', Option.bind_some]
            cases ht : a.tmps[d]? with
            | none => rw [Array.getD_eq_getD_getElem?, ht] at hx; simp [undef] at hx
            | some y => rw [Array.getD_eq_getD_getElem?, ht] at hx; simp at hx; subst hx; rfl
          rw [this]
          cases bb <;> cases want <;> rfl
        · cases he
      · rename_i p bb htm
        rw [htm] at hv
        split at he
        · rename_i x orc'
          simp only [Option.some.injEq, Prod.mk.injEq] at he
          obtain ⟨rfl, rfl, rfl⟩ := he
          have hbx : (p && (bif want then bb else !bb)) = x := hC.1
          exact (wantedP hd' hv).trans hbx
        · cases he
      · rename_i vs htm
        rw [htm] at hv
        simp only [Option.some.injEq, Prod.mk.injEq] at he
        obtain ⟨rfl, rfl, rfl⟩ := he
        rw [hy _ (VR_lit hv) (fun b e => by cases e)]
        rfl
      · cases he

/-- What a step comes to. -/
def StepR (P : Program) (G : Env) (ops : Array Oper) (o : Oper) (ρ : Lay) (h : Heap) (O : Nat → Prop) (w : World) (a : Act) (v : AV) (us : List (Nat × Row)) : Prop :=
  (Region.wanted o (yielded ops a.tmps) = true ∧ RunsTo P (execOp a.eval o) w (Post G ρ h O w v us)) ∨ (Region.wanted o (yielded ops a.tmps) = false ∧ VR ρ h O w v undef ∧ us = [])

theorem AllP_append : ∀ {l m : List Prop}, AllP (l ++ m) ↔ AllP l ∧ AllP m
  | [], m => by simp [AllP]
  | p :: l, m => by simp only [List.cons_append, AllP, AllP_append (l := l) (m := m), and_assoc]

theorem forceCs_mem {f : Operand → AV} : ∀ {l : List Operand}, AllP (forceCs (l.map f)) → ∀ x ∈ l, AllP (forceC (f x))
  | [], _, x, h => by cases h
  | y :: l, hC, x, h => by
    simp only [List.map_cons, forceCs] at hC
    obtain ⟨h1, h2⟩ := AllP_append.1 hC
    rcases List.mem_cons.1 h with rfl | h
    · exact h1
    · exact forceCs_mem h2 x h

theorem evOpF_sound {o : Oper} {f : Operand → AV} {g : Operand → Value} {hr : Heap} {fr : Nat} {orc orc' : List Orc} {v : AV} {us : List (Nat × Row)} {c : List Prop} (S : Sim G ρ h O w)
    (hsub : ∀ id r, hr id = some r → h id = some r) (hfr : ∀ i, fr ≤ i → i < fr + 64 → h i = none) (hop : ∀ x ∈ o.op.operands.toList, VR ρ h O w (f x) (g x))
    (he : evOpF P G o f hr fr orc = some (v, us, c, orc')) (hC : AllP c) : RunsTo P (execOp g o) w (Post G ρ h O w v us) := by
  unfold evOpF at he
  split at he
  · rename_i cc a b hop'
    split at he
    · rename_i v' us' k hpk
      simp only [Option.some.injEq, Prod.mk.injEq] at he
      obtain ⟨rfl, rfl, rfl, rfl⟩ := he
      obtain ⟨hC1, hC2⟩ := AllP_append.1 hC
      obtain ⟨dst, op, type, pos, after, guard⟩ := o
      simp only at hop'
      subst hop'
      obtain ⟨u, h1, h2⟩ := pick_sound S (VR_force (hop cc (by simp [Op.operands])) hC2) (hop a (by simp [Op.operands])) (hop b (by simp [Op.operands])) hpk hC1
      exact .inl ⟨u, w, h1, h2⟩
    · cases he
  · split at he
    · rename_i v' us' k orc2 hx
      simp only [Option.some.injEq, Prod.mk.injEq] at he
      obtain ⟨rfl, rfl, rfl, rfl⟩ := he
      obtain ⟨hC1, hC2⟩ := AllP_append.1 hC
      exact evOp_sound S hsub hfr (fun x hx => VR_force (hop x hx) (forceCs_mem hC2 x hx)) hx hC1
    · cases he

theorem bothE_sound {ops : Array Oper} {o : Oper} {tm : Nat → AV} {a : Act} {orc orc1 : List Orc} {g x : Bool} (hs : ∀ t ∈ looksAtL ops o, VR ρ h O w (tm t) (a.tmps.getD t undef))
    (he : bothE ops o tm orc = some (x, g, orc1)) : Region.wanted o (yielded ops a.tmps) = g := by
  unfold bothE at he
  unfold Region.wanted
  split at he
  · cases hg : o.guard with
    | none => simp [hg] at he
    | some jw =>
      obtain ⟨j, want⟩ := jw
      simp only [hg] at he ⊢
      rw [nth_eq, Array.getElem?_toList] at he
      cases hd' : (ops[j]?).bind (·.dst) with
      | none => simp [hd'] at he
      | some d =>
        simp only [hd'] at he
        have hv := hs d (by simp [looksAtL, hg, nth_eq, hd'])
        split at he
        · rename_i bb htm
          simp only [Option.some.injEq, Prod.mk.injEq] at he
          obtain ⟨rfl, rfl, rfl⟩ := he
          rw [htm] at hv
          have := wantedP (p := true) (want := want) hd' (VR.opt (fun _ => hv) (fun e => by cases e))
          simpa using this
        · rename_i p bb htm
          simp only [Option.some.injEq, Prod.mk.injEq] at he
          obtain ⟨rfl, rfl, rfl⟩ := he
          rw [htm] at hv
          exact wantedP hd' hv
        · cases he
  · cases he

theorem noUs_nil {us : List (Nat × Row)} (h : noUs us = true) : us = [] := by
  cases us with
  | nil => rfl
  | cons => simp [noUs] at h

theorem stepE_sound0 {ops : Array Oper} {o : Oper} {fr : Nat} {tm : Nat → AV} {he : Heap} {a : Act} {orc orc' : List Orc} {v : AV} {us : List (Nat × Row)} {c : List Prop} (S : Sim G ρ h O w)
    (hs : ∀ t ∈ looksAtL ops o, VR ρ h O w (tm t) (a.tmps.getD t undef)) (hsub : ∀ id ∈ needOf0 ops o tm orc, ∀ r, he id = some r → h id = some r)
    (hfr : ∀ i, fr ≤ i → i < fr + 64 → h i = none) (hev : stepE0 P G ops o fr tm he orc = some (v, us, c, orc')) (hC : AllP c) : StepR P G ops o ρ h O w a v us := by
  have run : ∀ {orc1 orc2 : List Orc} {v' : AV} {us' : List (Nat × Row)} {c' : List Prop}, (∀ id ∈ needE (evX tm) o orc1, ∀ r, he id = some r → h id = some r) →
      evOpF P G o (evX tm) (restrict (needE (evX tm) o orc1) he) fr orc1 = some (v', us', c', orc2) → AllP c' → RunsTo P (execOp a.eval o) w (Post G ρ h O w v' us') := by
    intro orc1 orc2 v' us' c' hsub hx hC1
    refine evOpF_sound (g := a.eval) S (fun id r hr => ?_) hfr (fun x hx => ?_) hx hC1
    · unfold restrict at hr
      cases hb : elemB (needE (evX tm) o orc1) id with
      | true => simp only [hb, cond_true] at hr; exact hsub id (elemB_iff.1 hb) r hr
      | false => simp [hb] at hr
    · cases x with
      | tmp t => exact hs t (List.mem_append_left _ (List.mem_filterMap.2 ⟨.tmp t, hx, rfl⟩))
      | const v => exact VR.ofLit v
      | global g => exact VR.ofLit _
      | func f => exact VR.ofLit _
  unfold stepE0 at hev
  unfold needOf0 at hsub
  split at hev
  · rename_i x g orc1 hbo
    simp only [hbo] at hsub
    have hw := bothE_sound hs hbo
    split at hev
    · rename_i v' us' c' orc2 hx
      cases hn : noUs us' with
      | false => simp [hn] at hev
      | true =>
        simp only [hn, cond_true, Option.some.injEq, Prod.mk.injEq] at hev
        obtain ⟨rfl, rfl, rfl, rfl⟩ := hev
        have := noUs_nil hn
        subst this
        have hxg := hC.1
        subst hxg
        cases hg : x with
        | true =>
          subst hg
          refine .inl ⟨hw, ?_⟩
          refine (run hsub hx (hC.2.1 rfl)).mono fun x w' ⟨ρ', O', p1, p2, p3⟩ => ⟨ρ', O', .opt (fun _ => p1) (fun e => by cases e), p2, p3⟩
        | false =>
          subst hg
          exact .inr ⟨hw, .opt (fun e => by cases e) (fun _ => rfl), rfl⟩
    · cases hev
  · rename_i hbo
    simp only [hbo] at hsub
    split at hev
    · cases hev
    · rename_i c1 orc1 hg
      simp only [Option.some.injEq, Prod.mk.injEq] at hev
      obtain ⟨rfl, rfl, rfl, rfl⟩ := hev
      exact .inr ⟨guardE_sound hs hg hC, VR.ofLit undef, rfl⟩
    · rename_i c1 orc1 hg
      simp only [hg] at hsub
      split at hev
      · rename_i v' us' c' orc2 hx
        cases hb : usOk (needE (evX tm) o orc1) he fr us' with
        | false => simp [hb] at hev
        | true =>
          simp only [hb, cond_true, Option.some.injEq, Prod.mk.injEq] at hev
          obtain ⟨rfl, rfl, rfl, rfl⟩ := hev
          obtain ⟨hC1, hC2⟩ := AllP_append.1 hC
          exact .inl ⟨guardE_sound hs hg hC2, run hsub hx hC1⟩
      · cases hev

theorem stepE_soundW {ops : Array Oper} {o : Oper} {fr : Nat} {tm : Nat → AV} {he : Heap} {a : Act} {orc orc' : List Orc} {v : AV} {us : List (Nat × Row)} {c : List Prop} (S : Sim G ρ h O w)
    (hs : ∀ t ∈ looksAtL ops o, VR ρ h O w (tm t) (a.tmps.getD t undef)) (hsub : ∀ id ∈ needOf ops o tm orc, ∀ r, he id = some r → h id = some r)
    (hfr : ∀ i, fr ≤ i → i < fr + 64 → h i = none) (hev : stepE P G ops o fr tm he orc = some (v, us, c, orc')) (hC : AllP c) : StepR P G ops o ρ h O w a v us := by
  unfold stepE at hev
  unfold needOf at hsub
  split at hev
  · split at hev
    · rename_i hx
      simp only [Option.some.injEq, Prod.mk.injEq] at hev
      obtain ⟨rfl, rfl, rfl, rfl⟩ := hev
      obtain ⟨h1, h2, -⟩ := AllP_append.1 hC
      subst h2
      exact stepE_sound0 S hs hsub hfr hx h1
    · rename_i hx
      simp only [Option.some.injEq, Prod.mk.injEq] at hev
      obtain ⟨rfl, rfl, rfl, rfl⟩ := hev
      obtain ⟨h1, h2, -⟩ := AllP_append.1 hC
      subst h2
      exact stepE_sound0 S hs hsub hfr hx h1
    · cases hev
  · rename_i hn
    refine stepE_sound0 S hs ?_ hfr hev hC
    have : unname orc = orc := by
      cases orc with
      | nil => rfl
      | cons y l => cases y <;> first | rfl | exact absurd rfl (hn _ _)
    rw [this] at hsub
    exact hsub

theorem stepE_sound {ops : Array Oper} {o : Oper} {fr n : Nat} {tm : Nat → AV} {a : Act} {orc orc' : List Orc} {v : AV} {us : List (Nat × Row)} {c : List Prop} (S : Sim G ρ h O w)
    (hs : Slots ρ h O w n tm a) (hfr : ∀ i, fr ≤ i → i < fr + 64 → h i = none) (he : stepE P G ops o fr tm h orc = some (v, us, c, orc')) (hC : AllP c) : StepR P G ops o ρ h O w a v us :=
  stepE_soundW S (fun t _ => hs.2 t) (fun id _ r hr => hr) hfr he hC

theorem usOk_spec {need : List Nat} {h : Heap} {fr : Nat} : ∀ {us : List (Nat × Row)}, usOk need h fr us = true → ∀ id r, lookL us id = some r → (id ∈ need ∧ (h id).isSome = true) ∨ (fr ≤ id ∧ id < fr + 64)
  | [], _, id, r, hl => by simp [lookL] at hl
  | (i, x) :: us, hu, id, r, hl => by
    unfold usOk at hu
    cases hb : (elemB need i && (h i).isSome || Nat.ble fr i && Nat.blt i (fr + 64)) with
    | false => simp [hb] at hu
    | true =>
      simp only [hb, cond_true] at hu
      simp only [lookL] at hl
      cases hi : Nat.beq i id with
      | true =>
        have := Nat.eq_of_beq_eq_true hi
        subst this
        simp only [Bool.or_eq_true, Bool.and_eq_true] at hb
        rcases hb with ⟨h1, h2⟩ | ⟨h1, h2⟩
        · exact .inl ⟨elemB_iff.1 h1, h2⟩
        · exact .inr ⟨Nat.le_of_ble_eq_true h1, Nat.blt_eq.mp h2⟩
      | false =>
        simp only [hi, cond_false] at hl
        exact usOk_spec hu id r hl

theorem stepE_us0 {ops : Array Oper} {o : Oper} {fr : Nat} {tm : Nat → AV} {orc orc' : List Orc} {v : AV} {us : List (Nat × Row)} {c : List Prop}
    (he : stepE0 P G ops o fr tm h orc = some (v, us, c, orc')) : ∀ id r, lookL us id = some r → (id ∈ needOf0 ops o tm orc ∧ (h id).isSome = true) ∨ (fr ≤ id ∧ id < fr + 64) := by
  unfold stepE0 at he
  unfold needOf0
  split at he
  · split at he
    · rename_i v' us' c' orc2 hx
      cases hn : noUs us' with
      | false => simp [hn] at he
      | true =>
        simp only [hn, cond_true, Option.some.injEq, Prod.mk.injEq] at he
        obtain ⟨rfl, rfl, rfl, rfl⟩ := he
        intro id r hl
        simp [lookL] at hl
    · cases he
  · rename_i hbo
    split at he
    · cases he
    · rename_i c1 orc1 hg
      simp only [Option.some.injEq, Prod.mk.injEq] at he
      obtain ⟨rfl, rfl, rfl, rfl⟩ := he
      intro id r hl
      simp [lookL] at hl
    · rename_i c1 orc1 hg
      split at he
      · rename_i v' us' c' orc2 hev
        cases hb : usOk (needE (evX tm) o orc1) h fr us' with
        | false => simp [hb] at he
        | true =>
          simp only [hb, cond_true, Option.some.injEq, Prod.mk.injEq] at he
          obtain ⟨rfl, rfl, rfl, rfl⟩ := he
          simp only [hbo, hg]
          exact usOk_spec hb
      · cases he

theorem stepE_us {ops : Array Oper} {o : Oper} {fr : Nat} {tm : Nat → AV} {orc orc' : List Orc} {v : AV} {us : List (Nat × Row)} {c : List Prop}
    (he : stepE P G ops o fr tm h orc = some (v, us, c, orc')) : ∀ id r, lookL us id = some r → (id ∈ needOf ops o tm orc ∧ (h id).isSome = true) ∨ (fr ≤ id ∧ id < fr + 64) := by
  unfold stepE at he
  unfold needOf
  split at he
  · split at he
    · rename_i hx
      simp only [Option.some.injEq, Prod.mk.injEq] at he
      obtain ⟨rfl, rfl, rfl, rfl⟩ := he
      exact stepE_us0 hx
    · rename_i hx
      simp only [Option.some.injEq, Prod.mk.injEq] at he
      obtain ⟨rfl, rfl, rfl, rfl⟩ := he
      exact stepE_us0 hx
    · cases he
  · rename_i hn
    have : unname orc = orc := by
      cases orc with
      | nil => rfl
      | cons y l => cases y <;> first | rfl | exact absurd rfl (hn _ _)
    rw [this]
    exact stepE_us0 he

/-- The deferred calls of an activation, ahead of those that were there. -/
def DefR (B : List Deferred) : List (FuncId × List AV) → List Deferred → Prop
  | [], ds => ds = B
  | p :: l, d :: m => (∃ cap, d.target = .fn (.func p.1) cap) ∧ DefR B l m
  | _ :: _, [] => False

/-- Everything at once. -/
structure Inv (G : Env) (B : List Deferred) (ρ : Lay) (O : Nat → Prop) (s : St) (a : Act) (w : World) : Prop where
  sim : Sim G ρ s.h O w
  slots : Slots ρ s.h O w s.n s.tm a
  defs : DefR B s.df a.defers

/-- What lies behind a run from one world to another. -/
def Goes (G : Env) (B : List Deferred) (ρ : Lay) (h : Heap) (O : Nat → Prop) (w : World) (s' : St) (a' : Act) (w' : World) : Prop :=
  ∃ ρ' O', Inv G B ρ' O' s' a' w' ∧ Fr ρ h O w ρ' s'.h O' w'

theorem StepR.wp {ops : Array Oper} {o : Oper} {a : Act} {v : AV} {us : List (Nat × Row)} {n : Nat} {tm : Nat → AV} {Q : Exit → Act → World → Prop} {K : Act → World → Prop} (S : Sim G ρ h O w)
    (hs : Slots ρ h O w n tm a) (hd : dstOk n o.dst = true) (hst : StepR P G ops o ρ h O w a v us)
    (hK : ∀ ρ' O' w' x, Sim G ρ' (h.upd us) O' w' → Slots ρ' (h.upd us) O' w' n (putT tm o.dst v) (a.put o.dst x) → Fr ρ h O w ρ' (h.upd us) O' w' → K (a.put o.dst x) w') :
    if Region.wanted o (yielded ops a.tmps) then o.wp P a w K Q else K (a.put o.dst undef) w := by
  rcases hst with ⟨h1, h2⟩ | ⟨h1, h2, rfl⟩
  · rw [if_pos h1]
    refine h2.wp fun x w' ⟨ρ', O', p1, p2, p3⟩ => hK ρ' O' w' x p2 ((hs.mono S p3).put hd p1) p3
  · rw [if_neg (by simp [h1])]
    exact hK ρ O w undef S (hs.put hd h2) (Fr.refl ρ h O w)

theorem upd_none {h : Heap} {us : List (Nat × Row)} {id : Nat} (h1 : lookL us id = none) : (h.upd us) id = h id := by simp [Heap.upd, h1]

theorem fresh_upd {ops : Array Oper} {o : Oper} {fr : Nat} {tm : Nat → AV} {orc orc' : List Orc} {v : AV} {us : List (Nat × Row)} {c : List Prop}
    (he : stepE P G ops o fr tm h orc = some (v, us, c, orc')) (hfr : ∀ i, fr ≤ i → h i = none) : ∀ i, fr + 64 ≤ i → (h.upd us) i = none := fun i hi => by
  cases hl : lookL us i with
  | none => rw [upd_none hl]; exact hfr i (by omega)
  | some r =>
    rcases stepE_us he i r hl with ⟨h1, h2⟩ | ⟨h1, h2⟩
    · rw [hfr i (by omega)] at h2; cases h2
    · omega

theorem DefR_put {B : List Deferred} {df : List (FuncId × List AV)} {a : Act} {dst : Option Nat} {x : Value} (h : DefR B df a.defers) : DefR B df (a.put dst x).defers := by cases dst <;> exact h

theorem evOps_c {ops : Array Oper} : ∀ (l : List Oper) (k : Nat) (s s' : St) (fs : List Foot), evOps P G ops l k s = some (s', fs) → AllP s'.c → AllP s.c
  | [], k, s, s', fs, he, hC => by simp [evOps] at he; rw [he.1]; exact hC
  | o :: l, k, s, s', fs, he, hC => by
    unfold evOps at he
    split at he
    · split at he
      · cases hd : dstOk s.n o.dst with
        | false => simp [hd] at he
        | true =>
          simp only [hd, cond_true] at he
          obtain ⟨⟨s2, fs2⟩, h1, h2⟩ := Option.map_eq_some_iff.1 he
          simp only [Prod.mk.injEq] at h2
          obtain ⟨rfl, rfl⟩ := h2
          exact (evOps_c l (k + 1) _ _ _ h1 hC).2
      · cases he
    · split at he
      · cases hd : dstOk s.n o.dst with
        | false => simp [hd] at he
        | true =>
          simp only [hd, cond_true] at he
          obtain ⟨⟨s2, fs2⟩, h1, h2⟩ := Option.map_eq_some_iff.1 he
          simp only [Prod.mk.injEq] at h2
          obtain ⟨rfl, rfl⟩ := h2
          exact (AllP_append.1 (evOps_c l (k + 1) _ _ _ h1 hC)).2
      · cases he

/-- A region in the order of its text. -/
theorem evOps_seq {B : List Deferred} {ops : Array Oper} {Q : Exit → Act → World → Prop} : ∀ (l : List Oper) (k : Nat) (s s' : St) (fs : List Foot) (ρ : Lay) (O : Nat → Prop) (a : Act) (w : World),
    evOps P G ops l k s = some (s', fs) → AllP s'.c → (∀ i, s.nx + 64 * k ≤ i → s.h i = none) → Inv G B ρ O s a w →
    (∀ a' w', Goes G B ρ s.h O w s' a' w' → Q .normal a' w') → (∀ i, s.nx + 64 * (k + l.length) ≤ i → s'.h i = none) ∧ s'.n = s.n ∧ s'.nx = s.nx ∧ wpList P ops Q l a w
  | [], k, s, s', fs, ρ, O, a, w, he, hC, hfr, I, hQ => by
    simp [evOps] at he
    obtain ⟨rfl, rfl⟩ := he
    exact ⟨by simpa using hfr, rfl, rfl, hQ a w ⟨ρ, O, I, Fr.refl _ _ _ _⟩⟩
  | o :: l, k, s, s', fs, ρ, O, a, w, he, hC, hfr, I, hQ => by
    unfold evOps at he
    split at he
    · rename_i c hop hgd
      split at he
      · rename_i g hg
        cases hd : dstOk s.n o.dst with
        | false => simp [hd] at he
        | true =>
          simp only [hd, cond_true] at he
          obtain ⟨⟨s2, fs2⟩, h1, h2⟩ := Option.map_eq_some_iff.1 he
          simp only [Prod.mk.injEq] at h2
          obtain ⟨rfl, rfl⟩ := h2
          have hslots : Slots ρ s.h O w s.n (putT s.tm o.dst (.lit undef)) ({ a with defers := a.defers }.put o.dst undef) := I.slots.put hd (VR.ofLit undef)
          -- the deferred call
          have hres : ∃ d cap, (resolve a.eval c o.type).run P w = .ok d w ∧ d.target = .fn (.func g) cap := by
            unfold deferE at hg
            split at hg
            · rename_i x hc
              have hx := I.slots.eval x
              split at hg
              · rename_i g' fs cp hfx
                cases hg
                rw [hfx] at hx
                have := VR_lit hx
                exact ⟨_, cp, by simp only [resolve, hc, this, Deferred.ofValue]; rfl, rfl⟩
              · rename_i g' fs cp hfx
                cases hg
                rw [hfx] at hx
                obtain ⟨vf, vc, hgx, _⟩ := VR_clo hx
                exact ⟨_, vc, by simp only [resolve, hc, hgx, Deferred.ofValue]; rfl, rfl⟩
              · cases hg
            · cases hg
          obtain ⟨d, cap, hrun, htar⟩ := hres
          have I2 : Inv G B ρ O { s with tm := putT s.tm o.dst (.lit undef), df := (g, []) :: s.df, c := IdleD P g :: s.c } ({ a with defers := d :: a.defers }.put o.dst undef) w :=
            ⟨I.sim, by cases hdst : o.dst with | none => rw [hdst] at hslots; exact hslots | some t => rw [hdst] at hslots; exact hslots, by
              have : DefR B ((g, []) :: s.df) (d :: a.defers) := ⟨⟨cap, htar⟩, I.defs⟩
              cases o.dst <;> exact this⟩
          obtain ⟨r1, r2, r3, r4⟩ := evOps_seq l (k + 1) _ s2 fs2 ρ O _ w h1 hC (fun i hi => hfr i (by simp at hi; omega)) I2 hQ
          refine ⟨fun i hi => r1 i (by simp at hi ⊢; omega), r2, r3, ?_⟩
          unfold wpList
          rw [if_pos (by simp [Region.wanted, hgd])]
          refine .inl ?_
          unfold Oper.wp
          have hex : (execOp a.eval o).run P w = .ok (.defer d) w := by
            obtain ⟨dst, op, type, pos, after, guard⟩ := o
            simp only at hop hrun
            subst hop
            simp [execOp, hrun]
          rw [hex]
          exact r4
      · cases he
    · rename_i hnd
      split at he
      · rename_i v us c orc' hst
        cases hd : dstOk s.n o.dst with
        | false => simp [hd] at he
        | true =>
          simp only [hd, cond_true] at he
          obtain ⟨⟨s2, fs2⟩, h1, h2⟩ := Option.map_eq_some_iff.1 he
          simp only [Prod.mk.injEq] at h2
          obtain ⟨rfl, rfl⟩ := h2
          have hcs := evOps_c l (k + 1) _ _ _ h1 hC
          have hc := (AllP_append.1 hcs).1
          have hfr2 : ∀ i, s.nx + 64 * (k + 1) ≤ i → (s.h.upd us) i = none := fun i hi => fresh_upd hst hfr i (by omega)
          have hS := stepE_sound I.sim I.slots (fun i hi _ => hfr i hi) hst hc
          -- what does not hang on the world
          have hstat : (∀ i, s.nx + 64 * (k + (l.length + 1)) ≤ i → s2.h i = none) ∧ s2.n = s.n ∧ s2.nx = s.nx := by
            have stat : ∀ (l : List Oper) (k : Nat) (s s' : St) (fs : List Foot), evOps P G ops l k s = some (s', fs) → (∀ i, s.nx + 64 * k ≤ i → s.h i = none) →
                (∀ i, s.nx + 64 * (k + l.length) ≤ i → s'.h i = none) ∧ s'.n = s.n ∧ s'.nx = s.nx := by
              intro l
              induction l with
              | nil => intro k s s' fs he hf; simp [evOps] at he; obtain ⟨rfl, rfl⟩ := he; exact ⟨by simpa using hf, rfl, rfl⟩
              | cons o l ih =>
                intro k s s' fs he hf
                unfold evOps at he
                split at he
                · split at he
                  · cases hd : dstOk s.n o.dst with
                    | false => simp [hd] at he
                    | true =>
                      simp only [hd, cond_true] at he
                      obtain ⟨⟨s2, fs2⟩, h1, h2⟩ := Option.map_eq_some_iff.1 he
                      simp only [Prod.mk.injEq] at h2
                      obtain ⟨rfl, rfl⟩ := h2
                      obtain ⟨q1, q2, q3⟩ := ih (k + 1) _ _ _ h1 (fun i hi => hf i (by simp at hi; omega))
                      exact ⟨fun i hi => q1 i (by simp at hi ⊢; omega), q2, q3⟩
                  · cases he
                · split at he
                  · rename_i hst'
                    cases hd : dstOk s.n o.dst with
                    | false => simp [hd] at he
                    | true =>
                      simp only [hd, cond_true] at he
                      obtain ⟨⟨s2, fs2⟩, h1, h2⟩ := Option.map_eq_some_iff.1 he
                      simp only [Prod.mk.injEq] at h2
                      obtain ⟨rfl, rfl⟩ := h2
                      obtain ⟨q1, q2, q3⟩ := ih (k + 1) _ _ _ h1 (fun i hi => fresh_upd hst' hf i (by simp at hi; omega))
                      exact ⟨fun i hi => q1 i (by simp at hi ⊢; omega), q2, q3⟩
                  · cases he
            obtain ⟨q1, q2, q3⟩ := stat l (k + 1) _ _ _ h1 hfr2
            exact ⟨fun i hi => q1 i (by simp; omega), q2, q3⟩
          refine ⟨by simpa using hstat.1, hstat.2.1, hstat.2.2, wpList_step fun K hK => ?_⟩
          refine hS.wp I.sim I.slots hd fun ρ' O' w' x p1 p2 p3 => hK _ _ ?_
          refine (evOps_seq l (k + 1) _ s2 fs2 ρ' O' (a.put o.dst x) w' h1 hC hfr2 ⟨p1, p2, DefR_put I.defs⟩ fun a' w'' ⟨ρ2, O2, i2, f2⟩ => hQ a' w'' ⟨ρ2, O2, i2, p3.trans f2⟩).2.2.2
      · cases he

end
end Go.Ax
/-
  An abstract machine for Go functions (part 18): a region whose operations may come in more than one order.
-/
set_option linter.unusedVariables false
set_option linter.unusedSimpArgs false
namespace Go.Ax

/-! ### Runs of overwritings -/
section
variable {β : Type}
def over (e : Nat → Option (β → β)) (f : Nat → β) : Nat → β := fun x => match e x with | some g => g (f x) | none => f x

def runF : List (Nat → Option (β → β)) → Nat → (Nat → Bool) → (Nat → β) → Nat → β
  | [], _, _, f => f
  | e :: l, k, D, f => runF l (k + 1) D (bif D k then over e f else f)

theorem runF_congr : ∀ (l : List (Nat → Option (β → β))) (k : Nat) (D D' : Nat → Bool) (f f' : Nat → β) (x : Nat), (∀ j e, l[j]? = some e → (e x).isSome = true → D (k + j) = D' (k + j)) →
    f x = f' x → runF l k D f x = runF l k D' f' x
  | [], k, D, D', f, f', x, h, hf => hf
  | e :: l, k, D, D', f, f', x, h, hf => by
    simp only [runF]
    refine runF_congr l (k + 1) D D' _ _ x (fun j e' hj hs => by have := h (j + 1) e' (by simpa using hj) hs; rwa [show k + 1 + j = k + (j + 1) by omega]) ?_
    cases hx : e x with
    | none =>
      have h1 : over e f x = f x := by simp [over, hx]
      have h2 : over e f' x = f' x := by simp [over, hx]
      cases D k <;> cases D' k <;> simp [h1, h2, hf]
    | some g =>
      have h0 := h 0 e rfl (by rw [hx]; rfl)
      simp only [Nat.add_zero] at h0
      rw [h0]
      have h1 : over e f x = g (f x) := by simp [over, hx]
      have h2 : over e f' x = g (f' x) := by simp [over, hx]
      cases D' k <;> simp [h1, h2, hf]

theorem runF_none : ∀ (l : List (Nat → Option (β → β))) (k : Nat) (D : Nat → Bool) (f : Nat → β) (x : Nat), (∀ j e, l[j]? = some e → D (k + j) = true → e x = none) → runF l k D f x = f x
  | [], k, D, f, x, h => rfl
  | e :: l, k, D, f, x, h => by
    simp only [runF]
    rw [runF_none l (k + 1) D _ x fun j e' hj hd => h (j + 1) e' (by simpa using hj) (by rwa [show k + (j + 1) = k + 1 + j by omega])]
    cases hd : D k with
    | false => rfl
    | true => simp [over, h 0 e rfl (by simpa using hd)]

theorem runF_push : ∀ (l : List (Nat → Option (β → β))) (k : Nat) (D : Nat → Bool) (f f' : Nat → β) (x : Nat) (g : β → β), f' x = g (f x) →
    (∀ j e', l[j]? = some e' → D (k + j) = true → ∀ g', e' x = some g' → ∀ b, g' (g b) = g (g' b)) → runF l k D f' x = g (runF l k D f x)
  | [], k, D, f, f', x, g, hf, _ => hf
  | e :: l, k, D, f, f', x, g, hf, hc => by
    simp only [runF]
    refine runF_push l (k + 1) D _ _ x g ?_ fun j e' hj hd => hc (j + 1) e' (by simpa using hj) (by rwa [show k + (j + 1) = k + 1 + j by omega])
    cases hd : D k with
    | false => exact hf
    | true =>
      simp only [cond_true]
      cases hx : e x with
      | none => simp [over, hx, hf]
      | some g' => simp only [over, hx, hf]; exact hc 0 e rfl (by simpa using hd) g' hx _

theorem runF_ins : ∀ (l : List (Nat → Option (β → β))) (s k : Nat) (D : Nat → Bool) (f : Nat → β) (x : Nat) (e : Nat → Option (β → β)), l[k]? = some e → D (s + k) = false →
    (∀ j e', k < j → l[j]? = some e' → D (s + j) = true → ∀ g, e x = some g → ∀ g', e' x = some g' → ∀ b, g' (g b) = g (g' b)) →
    runF l s (fun j => Nat.beq j (s + k) || D j) f x = over e (runF l s D f) x
  | [], s, k, D, f, x, e, hk, _, _ => by simp at hk
  | e0 :: l, s, 0, D, f, x, e, hk, hD, hl => by
    simp at hk
    subst hk
    simp only [Nat.add_zero] at hD ⊢
    have hs : Nat.beq s s = true := Nat.beq_refl s
    simp only [runF, hs, Bool.true_or, hD, cond_true, cond_false]
    have e1 : runF l (s + 1) (fun j => Nat.beq j s || D j) (over e0 f) x = runF l (s + 1) D (over e0 f) x := by
      refine runF_congr l (s + 1) _ _ _ _ x (fun j e' hj _ => ?_) rfl
      have : Nat.beq (s + 1 + j) s = false := by cases hb : Nat.beq (s + 1 + j) s with | false => rfl | true => exact absurd (Nat.eq_of_beq_eq_true hb) (by omega)
      simp [this]
    rw [e1]
    cases hx : e0 x with
    | none =>
      have h2 : over e0 (runF l (s + 1) D f) x = runF l (s + 1) D f x := by simp [over, hx]
      rw [h2]
      exact runF_congr l (s + 1) D D _ _ x (fun _ _ _ _ => rfl) (by simp [over, hx])
    | some g =>
      have h2 : over e0 (runF l (s + 1) D f) x = g (runF l (s + 1) D f x) := by simp [over, hx]
      rw [h2]
      exact runF_push l (s + 1) D f (over e0 f) x g (by simp [over, hx]) fun j e' hj hd g' hg' => hl (j + 1) e' (by omega) (by simpa using hj) (by rwa [show s + (j + 1) = s + 1 + j by omega]) g hx g' hg'
  | e0 :: l, s, k + 1, D, f, x, e, hk, hD, hl => by
    have hs : Nat.beq s (s + (k + 1)) = false := by cases hb : Nat.beq s (s + (k + 1)) with | false => rfl | true => exact absurd (Nat.eq_of_beq_eq_true hb) (by omega)
    simp only [runF, hs, Bool.false_or]
    have := runF_ins l (s + 1) k D (bif D s then over e0 f else f) x e (by simpa using hk) (by rwa [show s + 1 + k = s + (k + 1) by omega])
      fun j e' hkj hj hd => hl (j + 1) e' (by omega) (by simpa using hj) (by rwa [show s + (j + 1) = s + 1 + j by omega])
    rw [show s + 1 + k = s + (k + 1) by omega] at this
    exact this

theorem runF_insert (l : List (Nat → Option (β → β))) (k : Nat) (D : Nat → Bool) (f : Nat → β) (x : Nat) (e : Nat → Option (β → β)) (hk : l[k]? = some e) (hD : D k = false)
    (hlater : ∀ j e', k < j → l[j]? = some e' → D j = true → ∀ g, e x = some g → ∀ g', e' x = some g' → ∀ b, g' (g b) = g (g' b)) :
    runF l 0 (fun j => Nat.beq j k || D j) f x = over e (runF l 0 D f) x := by
  have := runF_ins l 0 k D f x e hk (by rwa [Nat.zero_add]) fun j e' hkj hj hd => hlater j e' hkj hj (by rwa [Nat.zero_add] at hd)
  rwa [Nat.zero_add] at this
end

/-! ### An entry more -/
def addR (n : Int) (v : AV) : Option Row → Option Row
  | some (.map kd es) => some (.map kd (insI es n v))
  | r => r

theorem addR_comm {n m : Int} {v u : AV} (hne : n ≠ m) : ∀ r, addR m u (addR n v r) = addR n v (addR m u r)
  | none => rfl
  | some .gone => rfl
  | some (.cells ..) => rfl
  | some (.bytes ..) => rfl
  | some (.map kd es) => by simp only [addR, insI_comm hne]

/-- A run in the text's order up to k, and one of some of them: how a map's entries compare. -/
def SubR (a b : Option Row) : Prop := a = b ∨ ∃ kd ea eb, a = some (.map kd ea) ∧ b = some (.map kd eb) ∧ (∀ n, memI eb n = true → memI ea n = true) ∧ eb.length ≤ ea.length

theorem SubR.add {a b : Option Row} (h : SubR a b) (n : Int) (v : AV) : SubR (addR n v a) (addR n v b) := by
  rcases h with rfl | ⟨kd, ea, eb, rfl, rfl, h1, h2⟩
  · exact .inl rfl
  · refine .inr ⟨kd, _, _, rfl, rfl, fun m hm => ?_, by rw [insI_len, insI_len]; omega⟩
    rw [memI_ins] at hm ⊢
    rcases Bool.or_eq_true _ _ ▸ hm with hm | hm
    · simp [hm]
    · simp [h1 m hm]

theorem SubR.skip {a b : Option Row} (h : SubR a b) (n : Int) (v : AV) : SubR (addR n v a) b := by
  have base : ∀ a : Option Row, SubR (addR n v a) a := fun a => by
    cases a with
    | none => exact .inl rfl
    | some r =>
      cases r with
      | map kd es => exact .inr ⟨kd, _, _, rfl, rfl, fun m hm => by rw [memI_ins, hm]; simp, by rw [insI_len]; omega⟩
      | gone => exact .inl rfl
      | cells => exact .inl rfl
      | bytes => exact .inl rfl
  rcases h with rfl | ⟨kd, ea, eb, rfl, rfl, h1, h2⟩
  · exact base a
  · exact .inr ⟨kd, _, _, rfl, rfl, fun m hm => by rw [memI_ins, h1 m hm]; simp, by rw [insI_len]; omega⟩

theorem runF_later {n : Int} {kd : IntKind} : ∀ (l : List (Nat → Option (Option Row → Option Row))) (s : Nat) (D : Nat → Bool) (f : Nat → Option Row) (x : Nat) (es : List (Int × AV)), f x = some (.map kd es) → memI es n = false →
    (∀ j e g, l[j]? = some e → D (s + j) = true → e x = some g → ∃ m v, g = addR m v ∧ m ≠ n) → ∃ es', runF l s D f x = some (.map kd es') ∧ memI es' n = false ∧ es'.length ≤ es.length + l.length
  | [], s, D, f, x, es, hf, hm, _ => ⟨es, hf, hm, by simp⟩
  | e :: l, s, D, f, x, es, hf, hm, hc => by
    simp only [runF]
    have rest : ∀ (f' : Nat → Option Row) es1, f' x = some (.map kd es1) → memI es1 n = false → es1.length ≤ es.length + 1 → ∃ es', runF l (s + 1) D f' x = some (.map kd es') ∧ memI es' n = false ∧ es'.length ≤ es.length + (e :: l).length := fun f' es1 h1 h2 h3 => by
      obtain ⟨es', q1, q2, q3⟩ := runF_later l (s + 1) D f' x es1 h1 h2 fun j e' g hj hd => hc (j + 1) e' g (by simpa using hj) (by rwa [show s + (j + 1) = s + 1 + j by omega])
      exact ⟨es', q1, q2, by simp; omega⟩
    cases hd : D s with
    | false => exact rest f es hf hm (by omega)
    | true =>
      simp only [cond_true]
      cases hx : e x with
      | none => exact rest (over e f) es (by simp [over, hx, hf]) hm (by omega)
      | some g =>
        obtain ⟨m, v, rfl, hne⟩ := hc 0 e g rfl (by simpa using hd) hx
        refine rest (over e f) (insI es m v) (by simp [over, hx, hf, addR]) ?_ (by rw [insI_len]; omega)
        rw [memI_ins, hm]
        simp [hne]

theorem runF_sub {n : Int} {kd : IntKind} {k : Nat} : ∀ (l : List (Nat → Option (Option Row → Option Row))) (s : Nat) (D : Nat → Bool) (fa fb : Nat → Option Row) (x : Nat) (es : List (Int × AV)), s ≤ k → SubR (fa x) (fb x) →
    (∀ j e g, l[j]? = some e → s + j < k → e x = some g → ((∃ r, g = fun _ => r) ∧ D (s + j) = true) ∨ ∃ m v, g = addR m v) →
    (∀ j e g, l[j]? = some e → k ≤ s + j → D (s + j) = true → e x = some g → ∃ m v, g = addR m v ∧ m ≠ n) →
    runF l s (fun i => Nat.blt i k) fa x = some (.map kd es) → memI es n = false → ∃ es', runF l s D fb x = some (.map kd es') ∧ memI es' n = false ∧ es'.length ≤ es.length + l.length
  | [], s, D, fa, fb, x, es, _, hR, _, _, hr, hm => by
    simp only [runF] at hr
    rcases hR with h | ⟨kd', ea, eb, h1, h2, h3, h4⟩
    · exact ⟨es, by simp only [runF]; rw [← h, hr], hm, by simp⟩
    · rw [hr] at h1
      cases h1
      refine ⟨eb, h2, ?_, by simpa using h4⟩
      cases hb : memI eb n with
      | false => rfl
      | true => rw [h3 n hb] at hm; cases hm
  | e :: l, s, D, fa, fb, x, es, hsk, hR, hlow, hhigh, hr, hm => by
    by_cases hk : s < k
    · have hbl : Nat.blt s k = true := Nat.blt_eq.mpr hk
      simp only [runF, hbl, cond_true] at hr ⊢
      have hR' : SubR (over e fa x) ((bif D s then over e fb else fb) x) := by
        cases hx : e x with
        | none => cases D s <;> simp [over, hx, hR]
        | some g =>
          rcases hlow 0 e g rfl (by simpa using hk) hx with ⟨⟨r, rfl⟩, hd⟩ | ⟨m, v, rfl⟩
          · have hd : D s = true := by simpa using hd
            simp only [hd, cond_true, over, hx]
            exact .inl rfl
          · cases hd : D s with
            | true => simp only [cond_true, over, hx]; exact hR.add m v
            | false => simp only [cond_false, over, hx]; exact hR.skip m v
      obtain ⟨es', q1, q2, q3⟩ := runF_sub l (s + 1) D (over e fa) (bif D s then over e fb else fb) x es (by omega) hR'
        (fun j e' g hj h => by have := hlow (j + 1) e' g (by simpa using hj) (by omega); rwa [show s + (j + 1) = s + 1 + j by omega] at this)
        (fun j e' g hj h => by have := hhigh (j + 1) e' g (by simpa using hj) (by omega); rwa [show s + (j + 1) = s + 1 + j by omega] at this) hr hm
      exact ⟨es', q1, q2, by simp; omega⟩
    · have : s = k := by omega
      subst this
      rw [runF_none _ s _ fa x (fun j e' hj hb => by have := Nat.blt_eq.mp hb; omega)] at hr
      have later : ∀ es1, fb x = some (.map kd es1) → memI es1 n = false → es1.length ≤ es.length → ∃ es', runF (e :: l) s D fb x = some (.map kd es') ∧ memI es' n = false ∧ es'.length ≤ es.length + (e :: l).length := fun es1 h1 h2 h3 => by
        obtain ⟨es', q1, q2, q3⟩ := runF_later (n := n) (e :: l) s D fb x es1 h1 h2 fun j e' g hj hd hg => hhigh j e' g hj (by omega) hd hg
        exact ⟨es', q1, q2, by omega⟩
      rcases hR with h | ⟨kd', ea, eb, h1, h2, h3, h4⟩
      · exact later es (by rw [← h, hr]) hm (Nat.le_refl _)
      · rw [hr] at h1
        cases h1
        refine later eb h2 ?_ h4
        cases hb : memI eb n with
        | false => rfl
        | true => rw [h3 n hb] at hm; cases hm

/-! ### The steps of a region, written down -/
structure Ent where
  o : Oper
  tm : Nat → AV
  h : Heap
  orc : List Orc
  v : AV
  us : List (Nat × Row)
  c : List Prop
  orc' : List Orc

def Ent.slotF (e : Ent) : Nat → Option (AV → AV) := fun t => match e.o.dst with | none => none | some d => bif Nat.beq t d then some (fun _ => e.v) else none
def Ent.ins (e : Ent) : Option (Nat × Int × AV) := insOf e.o (evX e.tm) e.h
def Ent.rowF (e : Ent) : Nat → Option (Option Row → Option Row) := fun id =>
  match e.ins with
  | some (m, n, x) => bif Nat.beq id m then some (addR n x) else none
  | none => (lookL e.us id).map fun r _ => some r
def Ent.foot (ops : Array Oper) (e : Ent) : Foot := ⟨needOf ops e.o e.tm e.orc, e.us.map (·.1), e.ins⟩

theorem putT_over (tm : Nat → AV) (e : Ent) : putT tm e.o.dst e.v = over e.slotF tm := by
  funext t
  cases hd : e.o.dst with
  | none => simp [putT, over, Ent.slotF, hd]
  | some d => cases hb : Nat.beq t d <;> simp [putT, over, Ent.slotF, hd, hb]

section
variable {P : Program} {G : Env}
theorem insertE_val {t : TypeId} {m k x : AV} {h : Heap} {v : AV} {us : List (Nat × Row)} {c : List Prop} (he : insertE P t m k x h = some (v, us, c)) : v = .lit undef := by
  unfold insertE at he
  simp only [cond_eq_ite] at he
  split at he
  · split at he
    · split at he
      · split at he
        · cases he
        · simp only [Option.some.injEq, Prod.mk.injEq] at he
          exact he.1.symm
      · cases he
    · cases he
  · cases he

/-- What an entry's step comes to, and that it goes the same way in any memory whose map lacks the key. -/
theorem ins_step {ops : Array Oper} {o : Oper} {fr : Nat} {tm : Nat → AV} {h : Heap} {orc orc' : List Orc} {v : AV} {us : List (Nat × Row)} {c : List Prop} {m : Nat} {n : Int} {x : AV}
    (hi : insOf o (evX tm) h = some (m, n, x)) (he : stepE P G ops o fr tm h orc = some (v, us, c, orc')) :
    o.dst = none ∧ v = .lit undef ∧ ∃ kd es, h m = some (.map kd es) ∧ memI es n = false ∧ es.length ≤ 500 ∧ us = [(m, .map kd (insI es n x))] ∧
      ∀ (fr' : Nat) (h' : Heap) (es' : List (Int × AV)), h' m = some (.map kd es') → memI es' n = false → es'.length < 1000000 → ∃ c', stepE P G ops o fr' tm h' orc = some (v, [(m, .map kd (insI es' n x))], c', orc') ∧ AllP c' := by
  unfold insOf at hi
  split at hi
  · rename_i t mo ko vo hop hg hd
    split at hi
    · rename_i id kd0 n0 x0 hm hk hv
      split at hi
      · rename_i kd es hh
        cases hb : Nat.ble es.length 500 with
        | false => simp [hb] at hi
        | true =>
        simp only [hb, cond_true, Option.some.injEq, Prod.mk.injEq] at hi
        obtain ⟨rfl, rfl, rfl⟩ := hi
        have hneed : ∀ orc1, needE (evX tm) o orc1 = [id] := fun orc1 => by simp [needE, hop, Op.operands, hm, hk, hv, AV.idsL, AV.ids]
        have hbo : ∀ orc1, bothE ops o tm orc1 = none := fun orc1 => by
          unfold bothE
          split
          · simp [hg]
          · rfl
        have hgu : ∀ orc1, guardE ops o tm orc1 = some (true, [], orc1) := fun orc1 => by unfold guardE; simp [hg]
        have hev : ∀ (fr' : Nat) (h' : Heap) (orc1 : List Orc), evOpF P G o (evX tm) (restrict [id] h') fr' orc1 =
            (match insertE P t (.mp id) (.lit (.int kd0 n0)) (.lit x0) (restrict [id] h') with | some (v, us, k) => some (v, us, k, orc1) | none => none) := fun fr' h' orc1 => by
          unfold evOpF
          rw [hop]
          simp only [evOp, hop, hm, hk, hv, AV.force, noOrc, Op.operands, List.map_cons, List.map_nil, forceCs, forceC, List.append_nil]
          cases insertE P t (.mp id) (.lit (.int kd0 n0)) (.lit x0) (restrict [id] h') with
          | none => rfl
          | some r => simp
        have hres : ∀ h' : Heap, restrict [id] h' id = h' id := fun h' => by simp [restrict, elemB]
        have hst : ∀ (fr' : Nat) (h' : Heap) (orc1 : List Orc), stepE0 P G ops o fr' tm h' orc1 = (match insertE P t (.mp id) (.lit (.int kd0 n0)) (.lit x0) (restrict [id] h') with
            | some (v, us, k) => (bif usOk [id] h' fr' us then some (v, us, k, orc1) else none) | none => none) := fun fr' h' orc1 => by
          unfold stepE0
          rw [hbo, hgu]
          simp only [hneed, hev]
          cases insertE P t (.mp id) (.lit (.int kd0 n0)) (.lit x0) (restrict [id] h') with
          | none => rfl
          | some r => obtain ⟨a, b, d⟩ := r; simp
        have hsame : ∀ fr' h', stepE P G ops o fr' tm h' orc = stepE0 P G ops o fr' tm h' orc := by
          intro fr' h'
          match orc, he with
          | [], _ => rfl
          | .name z :: orc1, he =>
            exfalso
            simp only [stepE] at he
            rw [hst] at he
            cases hI : insertE P t (.mp id) (.lit (.int kd0 n0)) (.lit x0) (restrict [id] h) with
            | none => simp [hI] at he
            | some r =>
              obtain ⟨v1, us1, k1⟩ := r
              have := insertE_val hI
              subst this
              simp only [hI] at he
              cases hu : usOk [id] h fr us1 <;> simp [hu, undef] at he
          | .bit _ :: _, _ => rfl
          | .both _ :: _, _ => rfl
          | .val _ :: _, _ => rfl
          | .call .. :: _, _ => rfl
          | .loop .. :: _, _ => rfl
          | .turns _ :: _, _ => rfl
          | .own .. :: _, _ => rfl
          | .auto :: _, _ => rfl
          | .frz .. :: _, _ => rfl
          | .fin _ :: _, _ => rfl
        have h0 := he
        rw [hsame] at h0
        rw [hst] at h0
        split at h0
        · rename_i v1 us1 k1 hins
          have hins' := hins
          unfold insertE at hins
          split at hins
          · rename_i kt e1 id1 kd1 n1 ht hmp hlit
            cases hmp
            cases hlit
            split at hins
            · rename_i kd' kd'' es1 hkt hrow
              rw [hres, hh] at hrow
              cases hrow
              split at hins
              · rename_i hkk
                cases hmm : memI es n0 with
                | true => simp [hmm] at hins
                | false =>
                simp only [hmm, cond_false, Option.some.injEq, Prod.mk.injEq] at hins
                obtain ⟨rfl, rfl, rfl⟩ := hins
                obtain ⟨rfl, rfl⟩ := hkk
                cases hu : usOk [id] h fr [(id, Row.map kd0 (insI es n0 (.lit x0)))] with
                | false => simp [hu] at h0
                | true =>
                simp only [hu, cond_true, Option.some.injEq, Prod.mk.injEq] at h0
                obtain ⟨rfl, rfl, rfl, rfl⟩ := h0
                refine ⟨hd, rfl, kd0, es, hh, hmm, Nat.le_of_ble_eq_true hb, rfl, fun fr' h' es' h1 h2 h3 => ?_⟩
                refine ⟨[es'.length < 1000000], ?_, ⟨h3, trivial⟩⟩
                rw [hsame, hst]
                have : insertE P t (.mp id) (.lit (.int kd0 n0)) (.lit x0) (restrict [id] h') = some (.lit undef, [(id, .map kd0 (insI es' n0 (.lit x0)))], [es'.length < 1000000]) := by
                  unfold insertE
                  simp only [ht, hkt, hres, h1, and_self, if_true, h2, cond_false]
                rw [this]
                have hu' : usOk [id] h' fr' [(id, Row.map kd0 (insI es' n0 (.lit x0)))] = true := by simp [usOk, elemB, h1]
                simp only [hu', cond_true]
              · cases hins
            · cases hins
          · cases hins
        · cases h0
      · cases hi
    · cases hi
  · cases hi

theorem upd_over {ops : Array Oper} {fr : Nat} (e : Ent) (he : stepE P G ops e.o fr e.tm e.h e.orc = some (e.v, e.us, e.c, e.orc')) : e.h.upd e.us = over e.rowF e.h := by
  funext id
  simp only [Heap.upd, over, Ent.rowF]
  cases hi : e.ins with
  | none => cases hl : lookL e.us id <;> rfl
  | some q =>
    obtain ⟨m, n, x⟩ := q
    obtain ⟨_, _, kd, es, h1, h2, h3, h4, _⟩ := ins_step hi he
    rw [h4]
    simp only [lookL]
    cases hb : Nat.beq m id with
    | true =>
      have := Nat.eq_of_beq_eq_true hb
      subst this
      simp [h1, addR]
    | false =>
      have : Nat.beq id m = false := by cases hq : Nat.beq id m with | false => rfl | true => have := Nat.eq_of_beq_eq_true hq; subst this; simp at hb
      simp [this]
end

theorem lookL_mem : ∀ {us : List (Nat × Row)} {id : Nat} {r : Row}, lookL us id = some r → id ∈ us.map (·.1)
  | [], id, r, h => by simp [lookL] at h
  | (i, x) :: us, id, r, h => by
    simp only [lookL] at h
    cases hb : Nat.beq i id with
    | true => simp [Nat.eq_of_beq_eq_true hb]
    | false => simp only [hb, cond_false] at h; exact List.mem_cons_of_mem _ (lookL_mem h)

def EntOk (P : Program) (G : Env) (ops : Array Oper) (s : St) (k j : Nat) (E : List Ent) (e : Ent) (o : Oper) : Prop :=
  e.o = o ∧ stepE P G ops e.o (s.nx + 64 * (k + j)) e.tm e.h e.orc = some (e.v, e.us, e.c, e.orc') ∧ dstOk s.n e.o.dst = true ∧ AllP e.c ∧
  (∀ t, e.tm t = runF (E.map Ent.slotF) k (fun i => Nat.blt i (k + j)) s.tm t) ∧ ∀ id, e.h id = runF (E.map Ent.rowF) k (fun i => Nat.blt i (k + j)) s.h id

section
variable {P : Program} {G : Env}

theorem evOps_trace {ops : Array Oper} : ∀ (l : List Oper) (k : Nat) (s s' : St) (fs : List Foot), evOps P G ops l k s = some (s', fs) → (∀ o ∈ l, ∀ c, o.op ≠ .defer c) → AllP s'.c →
    ∃ E : List Ent, E.length = l.length ∧ fs = E.map (Ent.foot ops) ∧ (∀ j e o, E[j]? = some e → l[j]? = some o → EntOk P G ops s k j E e o) ∧
      (∀ t, s'.tm t = runF (E.map Ent.slotF) k (fun _ => true) s.tm t) ∧ (∀ id, s'.h id = runF (E.map Ent.rowF) k (fun _ => true) s.h id) ∧ s'.df = s.df ∧ s'.n = s.n ∧ s'.nx = s.nx
  | [], k, s, s', fs, he, hd, hC => by
    simp [evOps] at he
    obtain ⟨rfl, rfl⟩ := he
    exact ⟨[], rfl, rfl, fun j e o h => by simp at h, fun t => rfl, fun id => rfl, rfl, rfl, rfl⟩
  | o :: l, k, s, s', fs, he, hdf, hC => by
    unfold evOps at he
    split at he
    · rename_i c hop hgd
      exact absurd hop (hdf o (by simp) c)
    · split at he
      · rename_i v us c orc' hst
        cases hd : dstOk s.n o.dst with
        | false => simp [hd] at he
        | true =>
          simp only [hd, cond_true] at he
          obtain ⟨⟨s2, fs2⟩, h1, h2⟩ := Option.map_eq_some_iff.1 he
          simp only [Prod.mk.injEq] at h2
          obtain ⟨rfl, rfl⟩ := h2
          have hc := (AllP_append.1 (evOps_c l (k + 1) _ _ _ h1 hC)).1
          obtain ⟨E, e1, e2, e3, e4, e5, e6, e7, e8⟩ := evOps_trace l (k + 1) _ _ _ h1 (fun o ho => hdf o (List.mem_cons_of_mem _ ho)) hC
          have hput : putT s.tm o.dst v = over (Ent.slotF ⟨o, s.tm, s.h, s.orc, v, us, c, orc'⟩) s.tm := putT_over s.tm ⟨o, s.tm, s.h, s.orc, v, us, c, orc'⟩
          have hupd : s.h.upd us = over (Ent.rowF ⟨o, s.tm, s.h, s.orc, v, us, c, orc'⟩) s.h := upd_over ⟨o, s.tm, s.h, s.orc, v, us, c, orc'⟩ hst
          refine ⟨⟨o, s.tm, s.h, s.orc, v, us, c, orc'⟩ :: E, by simp [e1], by simp [e2, Ent.foot, Ent.ins], fun j e o' hj hl => ?_, fun t => ?_, fun id => ?_, e6, e7, e8⟩
          · cases j with
            | zero =>
              simp at hj hl
              subst hj; subst hl
              refine ⟨rfl, by simpa using hst, hd, hc, fun t => ?_, fun id => ?_⟩
              · symm
                refine runF_none _ k _ _ t fun j e hj hb => ?_
                have := Nat.blt_eq.mp hb
                omega
              · symm
                refine runF_none _ k _ _ id fun j e hj hb => ?_
                have := Nat.blt_eq.mp hb
                omega
            | succ j =>
              obtain ⟨g1, g2, g3, g4, g5, g6⟩ := e3 j e o' (by simpa using hj) (by simpa using hl)
              have hk : Nat.blt k (k + (j + 1)) = true := Nat.blt_eq.mpr (by omega)
              have hkk : k + 1 + j = k + (j + 1) := by omega
              rw [hkk] at g2 g5 g6
              refine ⟨g1, g2, g3, g4, fun t => ?_, fun id => ?_⟩
              · rw [g5 t]
                simp only [List.map_cons, runF, hk, cond_true, hput]
              · rw [g6 id]
                simp only [List.map_cons, runF, hk, cond_true, hupd]
          · rw [e4 t]
            simp only [List.map_cons, runF, cond_true, hput]
          · rw [e5 id]
            simp only [List.map_cons, runF, cond_true, hupd]
      · cases he

/-! ### What the look at orders says -/
def edgesOf (ops : Array Oper) (j : Nat) : List Nat := match ops[j]? with | some o => edgeOn o.after.toList | none => []

def Closed (ops : Array Oper) (D : Nat → Bool) : Prop := ∀ j, D j = true → ∀ x ∈ edgesOf ops j, D x = true

def Good (ops : Array Oper) (j : Nat) (r : List Nat) : Prop := ∀ D, Closed ops D → (∀ x ∈ edgesOf ops j, D x = true) → ∀ x ∈ r, D x = true

theorem befRow_good {ops : Array Oper} {tab : List (List Nat)} (ht : ∀ i r, tab[i]? = some r → Good ops i r) {D : Nat → Bool} (hD : Closed ops D) :
    ∀ (l : List Nat), (∀ x ∈ l, D x = true) → ∀ x ∈ befRow tab l, D x = true
  | [], _, x, hx => by simp [befRow] at hx
  | j :: l, hl, x, hx => by
    simp only [befRow, List.cons_append, List.mem_cons, List.mem_append] at hx
    rcases hx with rfl | hx | hx
    · exact hl x (by simp)
    · rw [nth_eq] at hx
      cases hj : tab[j]? with
      | none => simp [hj] at hx
      | some r =>
        simp only [hj, Option.getD_some] at hx
        exact ht j r hj D hD (hD j (hl j (by simp))) x hx
    · exact befRow_good ht hD l (fun y hy => hl y (List.mem_cons_of_mem _ hy)) x hx

theorem befTab_good {ops : Array Oper} : ∀ (l : List Oper) (tab : List (List Nat)), (∀ j, l[j]? = ops.toList[tab.length + j]?) → (∀ i r, tab[i]? = some r → Good ops i r) →
    ∀ i r, (befTab l tab)[i]? = some r → Good ops i r
  | [], tab, hl, ht, i, r, h => ht i r h
  | o :: l, tab, hl, ht, i, r, h => by
    simp only [befTab] at h
    have h0 := hl 0
    simp at h0
    refine befTab_good l (tab ++ [befRow tab (edgeOn o.after.toList)]) (fun j => by have := hl (j + 1); simp at this ⊢; rw [this]; congr 1; omega) (fun i' r' hi' => ?_) i r h
    by_cases hlt : i' < tab.length
    · rw [List.getElem?_append_left hlt] at hi'
      exact ht i' r' hi'
    · have hi2 : i' = tab.length := by
        have := (List.getElem?_eq_some_iff.1 hi').1
        simp at this
        omega
      subst hi2
      simp at hi'
      subst hi'
      intro D hD he
      refine befRow_good ht hD _ fun x hx => he x ?_
      simp only [edgesOf, ← h0]
      exact hx

theorem pairsWith_spec {ops : Array Oper} {bk : List Nat} {b : Oper} {fb : Foot} : ∀ (l : List (Oper × Foot)) (i : Nat), pairsWith ops bk b fb i l = true →
    ∀ m a fa, l[m]? = some (a, fa) → (i + m) ∈ bk ∨ (apartB ops a fa b fb || insB fa fb) = true
  | [], i, h, m, a, fa, hm => by simp at hm
  | (a0, f0) :: l, i, h, m, a, fa, hm => by
    simp only [pairsWith] at h
    cases hb : (elemB bk i || (apartB ops a0 f0 b fb || insB f0 fb)) with
    | false => simp [hb] at h
    | true =>
      simp only [hb, cond_true] at h
      cases m with
      | zero =>
        simp at hm
        obtain ⟨rfl, rfl⟩ := hm
        rcases Bool.or_eq_true _ _ ▸ hb with hb | hb
        · exact .inl (elemB_iff.1 hb)
        · exact .inr hb
      | succ m =>
        have := pairsWith_spec l (i + 1) h m a fa (by simpa using hm)
        rwa [show i + 1 + m = i + (m + 1) by omega] at this

theorem edgesBelow_spec {k : Nat} : ∀ {l : List Nat}, edgesBelow k l = true → ∀ x ∈ l, x < k
  | [], _, x, hx => by cases hx
  | j :: l, h, x, hx => by
    simp only [edgesBelow] at h
    cases hb : Nat.blt j k with
    | false => simp [hb] at h
    | true =>
      simp only [hb, cond_true] at h
      rcases List.mem_cons.1 hx with rfl | hx
      · exact Nat.blt_eq.mp hb
      · exact edgesBelow_spec h x hx

theorem pairsAll_spec {ops : Array Oper} : ∀ (rest before : List (Oper × Foot)) (bt : List (List Nat)) (k : Nat), pairsAll ops before rest bt k = true → before.length = k →
    ∀ j o f, rest[j]? = some (o, f) → ∃ bk, bt[j]? = some bk ∧ (∀ x ∈ edgeOn o.after.toList, x < k + j) ∧ (∀ c, o.op ≠ .defer c) ∧
      ∀ i a fa, i < k + j → (before ++ rest)[i]? = some (a, fa) → i ∈ bk ∨ (apartB ops a fa o f || insB fa f) = true
  | [], before, bt, k, h, hk, j, o, f, hj => by simp at hj
  | (o0, f0) :: rest, before, bt, k, h, hk, j, o, f, hj => by
    unfold pairsAll at h
    split at h
    · rename_i bk bt'
      simp at h
      obtain ⟨⟨⟨b1, b2⟩, b3⟩, h⟩ := h
      cases j with
      | zero =>
        simp at hj
        obtain ⟨rfl, rfl⟩ := hj
        refine ⟨bk, rfl, fun x hx => by have := edgesBelow_spec b2 x hx; simpa using this, fun c hc => by simp [hc] at b3, fun i a fa hi hg => ?_⟩
        rw [List.getElem?_append_left (by omega)] at hg
        have := pairsWith_spec before 0 b1 i a fa hg
        rwa [Nat.zero_add] at this
      | succ j =>
        obtain ⟨bk', q1, q2, q3, q4⟩ := pairsAll_spec rest (before ++ [(o0, f0)]) bt' (k + 1) h (by simp [hk]) j o f (by simpa using hj)
        refine ⟨bk', by simpa using q1, fun x hx => by have := q2 x hx; omega, q3, fun i a fa hi hg => q4 i a fa (by omega) (by simpa using hg)⟩
    · cases h

theorem meetB_spec : ∀ {l m : List Nat}, meetB l m = false → ∀ x ∈ l, x ∉ m
  | [], m, _, x, hx => by cases hx
  | y :: l, m, h, x, hx => by
    simp only [meetB] at h
    cases hb : elemB m y with
    | true => simp [hb] at h
    | false =>
      simp only [hb, cond_false] at h
      rcases List.mem_cons.1 hx with rfl | hx
      · intro hm; rw [elemB_iff.2 hm] at hb; cases hb
      · exact meetB_spec h x hx

structure Apart (ops : Array Oper) (a b : Ent) : Prop where
  s1 : ∀ d, a.o.dst = some d → d ∉ looksAtL ops b.o
  s2 : ∀ d, b.o.dst = some d → d ∉ looksAtL ops a.o
  s3 : ∀ d, a.o.dst = some d → b.o.dst ≠ some d
  r1 : ∀ id ∈ a.us.map (·.1), id ∉ needOf ops b.o b.tm b.orc
  r2 : ∀ id ∈ b.us.map (·.1), id ∉ needOf ops a.o a.tm a.orc
  r3 : ∀ id ∈ a.us.map (·.1), id ∉ b.us.map (·.1)

theorem apartB_spec {ops : Array Oper} {a b : Ent} (h : apartB ops a.o (a.foot ops) b.o (b.foot ops) = true) : Apart ops a b := by
  simp only [apartB, Ent.foot, Bool.and_eq_true, Bool.not_eq_true'] at h
  obtain ⟨⟨⟨⟨⟨h1, h2⟩, h3⟩, h4⟩, h5⟩, h6⟩ := h
  exact ⟨fun d hd => meetB_spec h1 d (by simp [hd]), fun d hd => meetB_spec h2 d (by simp [hd]), fun d hd hd2 => meetB_spec h3 d (by simp [hd]) (by simp [hd2]),
    fun id hm => meetB_spec h4 id hm, fun id hm => meetB_spec h5 id hm, fun id hm => meetB_spec h6 id hm⟩

/-- Two entries of one map. -/
def TwoIns (a b : Ent) : Prop := ∃ m n x n' x', a.ins = some (m, n, x) ∧ b.ins = some (m, n', x') ∧ n ≠ n'

theorem insB_spec {ops : Array Oper} {a b : Ent} (h : insB (a.foot ops) (b.foot ops) = true) : TwoIns a b := by
  unfold insB at h
  split at h
  · rename_i i n x j m y h1 h2
    simp only [Bool.and_eq_true, Bool.not_eq_true', decide_eq_false_iff_not] at h
    have := Nat.eq_of_beq_eq_true h.1
    subst this
    exact ⟨i, n, x, m, y, h1, h2, h.2⟩
  · cases h

/-- What the look at orders gives, of a region's steps. -/
structure Ordered (ops : Array Oper) (E : List Ent) : Prop where
  below : ∀ j, ∀ x ∈ edgesOf ops j, x < j
  pairs : ∀ (i j : Nat) (ei ej : Ent), i < j → E[i]? = some ei → E[j]? = some ej → (∀ D, Closed ops D → (∀ x ∈ edgesOf ops j, D x = true) → D i = true) ∨ Apart ops ei ej ∨ TwoIns ei ej
  few : ops.size ≤ 400

theorem zip_get {α β : Type} : ∀ (l : List α) (m : List β) (j : Nat) (a : α) (b : β), l[j]? = some a → m[j]? = some b → (l.zip m)[j]? = some (a, b)
  | [], m, j, a, b, h1, h2 => by simp at h1
  | x :: l, [], j, a, b, h1, h2 => by simp at h2
  | x :: l, y :: m, 0, a, b, h1, h2 => by simp at h1 h2; subst h1; subst h2; rfl
  | x :: l, y :: m, j + 1, a, b, h1, h2 => by simpa using zip_get l m j a b (by simpa using h1) (by simpa using h2)

theorem ordersOk_nodefer {ops : Array Oper} {fs : List Foot} (h : ordersOk ops fs = true) : ∀ o ∈ ops.toList, ∀ c, o.op ≠ .defer c := by
  simp only [ordersOk, Bool.and_eq_true] at h
  have hl := Nat.eq_of_beq_eq_true h.1.1
  intro o ho c
  obtain ⟨j, hj, he⟩ := List.getElem_of_mem ho
  have h1 : ops.toList[j]? = some o := List.getElem?_eq_some_iff.2 ⟨hj, he⟩
  have h2 : fs[j]? = some (fs[j]'(by omega)) := List.getElem?_eq_some_iff.2 ⟨by omega, rfl⟩
  obtain ⟨bk, _, _, q3, _⟩ := pairsAll_spec _ [] _ 0 h.2 rfl j o _ (zip_get _ _ j _ _ h1 h2)
  exact q3 c

theorem ordersOk_spec {ops : Array Oper} {E : List Ent} (h : ordersOk ops (E.map (Ent.foot ops)) = true) (hE : ∀ (j : Nat) (e : Ent), E[j]? = some e → ops[j]? = some e.o) : Ordered ops E := by
  simp only [ordersOk, Bool.and_eq_true] at h
  have hl := Nat.eq_of_beq_eq_true h.1.1
  simp only [List.length_map] at hl
  have hz : ∀ (j : Nat) (e : Ent), E[j]? = some e → (ops.toList.zip (E.map (Ent.foot ops)))[j]? = some (e.o, e.foot ops) := fun j e hj =>
    zip_get _ _ j _ _ (by rw [Array.getElem?_toList]; exact hE j e hj) (by rw [List.getElem?_map, hj]; rfl)
  refine ⟨fun j x hx => ?_, fun i j ei ej hij hi hj => ?_, by have := Nat.le_of_ble_eq_true h.1.2; simpa using this⟩
  · unfold edgesOf at hx
    cases ho : ops[j]? with
    | none => simp [ho] at hx
    | some o =>
      simp only [ho] at hx
      have hlt : j < E.length := by rw [hl]; simpa using (Array.getElem?_eq_some_iff.1 ho).1
      have hj : E[j]? = some E[j] := List.getElem?_eq_some_iff.2 ⟨hlt, rfl⟩
      obtain ⟨bk, _, q2, _, _⟩ := pairsAll_spec _ [] _ 0 h.2 rfl j _ _ (hz j _ hj)
      have := hE j _ hj
      rw [ho] at this
      cases this
      simpa using q2 x hx
  · obtain ⟨bk, q1, q2, q3, q4⟩ := pairsAll_spec _ [] _ 0 h.2 rfl j _ _ (hz j ej hj)
    rcases q4 i ei.o (ei.foot ops) (by omega) (by simpa using hz i ei hi) with hm | hm
    · have hg := befTab_good (ops := ops) ops.toList [] (fun j => by simp) (fun i r h => by simp at h) j bk q1
      exact .inl fun D hD he => hg D hD he i hm
    · rcases Bool.or_eq_true _ _ ▸ hm with hm | hm
      · exact .inr (.inl (apartB_spec hm))
      · exact .inr (.inr (insB_spec hm))

end
end Go.Ax
/-
  An abstract machine for Go functions (part 19): any order of a region.
-/
set_option linter.unusedVariables false
set_option linter.unusedSimpArgs false
namespace Go.Ax

theorem countP_lt {p q : Nat → Bool} : ∀ (l : List Nat), (∀ x ∈ l, q x = true → p x = true) → (∃ x ∈ l, p x = true ∧ q x = false) → l.countP q < l.countP p
  | [], _, ⟨x, hx, _⟩ => by cases hx
  | y :: l, himp, ⟨x, hx, h1, h2⟩ => by
    have hle : ∀ (l : List Nat), (∀ x ∈ l, q x = true → p x = true) → l.countP q ≤ l.countP p := by
      intro l
      induction l with
      | nil => intro _; simp
      | cons z l ih =>
        intro h
        have := ih fun x hx => h x (List.mem_cons_of_mem _ hx)
        simp only [List.countP_cons]
        cases hq : q z with
        | false => simp; omega
        | true => simp [h z (by simp) hq]; omega
    simp only [List.countP_cons]
    rcases List.mem_cons.1 hx with rfl | hx
    · have := hle l fun z hz => himp z (List.mem_cons_of_mem _ hz)
      simp [h1, h2]
      omega
    · have := countP_lt l (fun z hz => himp z (List.mem_cons_of_mem _ hz)) ⟨x, hx, h1, h2⟩
      cases hq : q y with
      | false => simp; split <;> omega
      | true => simp [himp y (by simp) hq]; omega

theorem edgeOn_spec : ∀ {l : List Edge} {x : Nat}, x ∈ edgeOn l → ∃ e ∈ l, Region.binds .any e = true ∧ e.on = x
  | [], x, h => by simp [edgeOn] at h
  | e :: l, x, h => by
    simp only [edgeOn] at h
    cases hb : Region.binds .any e with
    | false =>
      simp only [hb, cond_false] at h
      obtain ⟨e', h1, h2⟩ := edgeOn_spec h
      exact ⟨e', List.mem_cons_of_mem _ h1, h2⟩
    | true =>
      simp only [hb, cond_true, List.mem_cons] at h
      rcases h with rfl | h
      · exact ⟨e, by simp, hb, rfl⟩
      · obtain ⟨e', h1, h2⟩ := edgeOn_spec h
        exact ⟨e', List.mem_cons_of_mem _ h1, h2⟩

theorem edgeOn_mem : ∀ {l : List Edge} {e : Edge}, e ∈ l → Region.binds .any e = true → e.on ∈ edgeOn l
  | [], e, h, _ => by cases h
  | e0 :: l, e, h, hb => by
    simp only [edgeOn]
    rcases List.mem_cons.1 h with rfl | h
    · simp [hb]
    · have := edgeOn_mem h hb
      cases Region.binds .any e0 <;> simp [this]

section
variable {P : Program} {G : Env} {ops : Array Oper} {s s' : St} {E : List Ent} {a0 : Act} {Q : Exit → Act → World → Prop}

/-- A region's steps with their orders. -/
structure Reg (P : Program) (G : Env) (ops : Array Oper) (s : St) (E : List Ent) : Prop where
  len : E.length = ops.size
  ok : ∀ (j : Nat) (e : Ent) (o : Oper), E[j]? = some e → ops[j]? = some o → EntOk P G ops s 0 j E e o
  ord : Ordered ops E
  fresh : ∀ i, s.nx ≤ i → s.h i = none

def tmD (E : List Ent) (s : St) (D : Nat → Bool) : Nat → AV := runF (E.map Ent.slotF) 0 D s.tm
def hD (E : List Ent) (s : St) (D : Nat → Bool) : Heap := runF (E.map Ent.rowF) 0 D s.h

theorem Reg.get (R : Reg P G ops s E) {j : Nat} {e : Ent} (hj : E[j]? = some e) : ops[j]? = some e.o := by
  have hlt : j < ops.size := by rw [← R.len]; exact (List.getElem?_eq_some_iff.1 hj).1
  have ho : ops[j]? = some ops[j] := Array.getElem?_eq_getElem hlt
  rw [ho, (R.ok j e _ hj ho).1]

theorem Reg.step (R : Reg P G ops s E) {j : Nat} {e : Ent} (hj : E[j]? = some e) : stepE P G ops e.o (s.nx + 64 * j) e.tm e.h e.orc = some (e.v, e.us, e.c, e.orc') := by
  have := (R.ok j e _ hj (R.get hj)).2.1
  simpa using this

theorem Reg.rowF_some (R : Reg P G ops s E) {j : Nat} {e : Ent} (hj : E[j]? = some e) {id : Nat} : (e.rowF id).isSome = true ↔ ∃ r, lookL e.us id = some r := by
  unfold Ent.rowF
  cases hi : e.ins with
  | none => cases lookL e.us id <;> simp
  | some q =>
    obtain ⟨m, n, x⟩ := q
    obtain ⟨_, _, kd, es, h1, h2, h3, h4, _⟩ := ins_step hi (R.step hj)
    rw [h4]
    simp only [lookL]
    cases hb : Nat.beq m id with
    | true => have := Nat.eq_of_beq_eq_true hb; subst this; simp
    | false =>
      have : Nat.beq id m = false := by cases hq : Nat.beq id m with | false => rfl | true => have := Nat.eq_of_beq_eq_true hq; subst this; simp at hb
      simp [this]

/-- Who writes a number that one step may make. -/
theorem Reg.writer (R : Reg P G ops s E) {k : Nat} {id : Nat} (h1 : s.nx + 64 * k ≤ id) (h2 : id < s.nx + 64 * k + 64) : ∀ (n j : Nat) (e : Ent), j ≤ n → E[j]? = some e → (e.rowF id).isSome = true → j ≠ k →
    ∃ ek, E[k]? = some ek ∧ (ek.rowF id).isSome = true ∧ k < j ∧ id ∈ needOf ops e.o e.tm e.orc := by
  intro n
  induction n with
  | zero =>
    intro j e hjn hj hs hne
    have : j = 0 := by omega
    subst this
    obtain ⟨r, hr⟩ := (R.rowF_some hj).1 hs
    rcases stepE_us (R.step hj) id r hr with ⟨q1, q2⟩ | ⟨q1, q2⟩
    · exfalso
      have := (R.ok 0 e _ hj (R.get hj)).2.2.2.2.2 id
      rw [runF_none _ 0 _ _ id (fun j' e' hj' hb => by have := Nat.blt_eq.mp hb; omega), R.fresh id (by omega)] at this
      rw [this] at q2
      cases q2
    · omega
  | succ n ih =>
    intro j e hjn hj hs hne
    obtain ⟨r, hr⟩ := (R.rowF_some hj).1 hs
    rcases stepE_us (R.step hj) id r hr with ⟨q1, q2⟩ | ⟨q1, q2⟩
    · have hh := (R.ok j e _ hj (R.get hj)).2.2.2.2.2 id
      -- someone before wrote it
      have hex : ∃ i ei, i < j ∧ E[i]? = some ei ∧ (ei.rowF id).isSome = true := by
        apply Classical.byContradiction
        intro hn
        have := runF_none (E.map Ent.rowF) 0 (fun i => Nat.blt i (0 + j)) s.h id (fun i e' hi hb => by
          have hlt := Nat.blt_eq.mp hb
          rw [List.getElem?_map] at hi
          obtain ⟨ei, hi', rfl⟩ := Option.map_eq_some_iff.1 hi
          cases hw : ei.rowF id with
          | none => rfl
          | some b => exact absurd ⟨i, ei, by omega, hi', by rw [hw]; rfl⟩ hn)
        rw [this, R.fresh id (by omega)] at hh
        rw [hh] at q2
        cases q2
      obtain ⟨i, ei, hij, hi, hw⟩ := hex
      by_cases hik : i = k
      · subst hik
        exact ⟨ei, hi, hw, hij, q1⟩
      · obtain ⟨ek, g1, g2, g3, _⟩ := ih i ei (by omega) hi hw hik
        exact ⟨ek, g1, g2, by omega, q1⟩
    · omega

/-- What holds when the operations of D have been done. -/
def Done (G : Env) (E : List Ent) (s : St) (ρ0 : Lay) (O0 : Nat → Prop) (w0 : World) (a0 : Act) (D : Nat → Bool) (a : Act) (w : World) : Prop :=
  ∃ ρ O, Sim G ρ (hD E s D) O w ∧ Slots ρ (hD E s D) O w s.n (tmD E s D) a ∧ a.defers = a0.defers ∧ Fr ρ0 s.h O0 w0 ρ (hD E s D) O w

theorem Reg.next (R : Reg P G ops s E) {ρ0 : Lay} {O0 : Nat → Prop} {w0 : World} {D : Nat → Bool} (hcl : Closed ops D) {k : Nat} {e : Ent} (hk : E[k]? = some e) (hDk : D k = false)
    (hed : ∀ x ∈ edgesOf ops k, D x = true) {a : Act} {w : World} (hd : Done G E s ρ0 O0 w0 a0 D a w) {K : Act → World → Prop}
    (hK : ∀ a' w', Done G E s ρ0 O0 w0 a0 (fun j => Nat.beq j k || D j) a' w' → K a' w') : wpOp P ops Q k K a w := by
  obtain ⟨ρ, O, S, hs, hdf, F⟩ := hd
  obtain ⟨g1, g2, g3, g4, g5, g6⟩ := R.ok k e _ hk (R.get hk)
  simp only [Nat.zero_add] at g2 g5 g6
  have pairLow : ∀ j ej, j < k → E[j]? = some ej → D j = true ∨ Apart ops ej e ∨ TwoIns ej e := fun j ej hj hej => (R.ord.pairs j k ej e hj hej hk).imp (fun h => h D hcl hed) id
  have pairHigh : ∀ j ej, k < j → E[j]? = some ej → D j = true → Apart ops e ej ∨ TwoIns e ej := fun j ej hj hej hDj =>
    (R.ord.pairs k j e ej hj hk hej).elim (fun h => by have := h D hcl (hcl j hDj); rw [hDk] at this; cases this) id
  have insDst : ∀ (j : Nat) (ej : Ent) m n x, E[j]? = some ej → ej.ins = some (m, n, x) → ej.o.dst = none := fun j ej m n x hej hi => (ins_step hi (R.step hej)).1
  have agreeT : ∀ t ∈ looksAtL ops e.o, tmD E s D t = e.tm t := fun t ht => by
    rw [g5 t]
    refine runF_congr _ 0 _ _ _ _ t (fun j f hj hf => ?_) rfl
    rw [List.getElem?_map] at hj
    obtain ⟨ej, hej, rfl⟩ := Option.map_eq_some_iff.1 hj
    have hdst : ej.o.dst = some t := by
      unfold Ent.slotF at hf
      split at hf
      · cases hf
      · rename_i d hd
        cases hb : Nat.beq t d with
        | false => simp [hb] at hf
        | true => rw [Nat.eq_of_beq_eq_true hb]; exact hd
    simp only [Nat.zero_add]
    rcases Nat.lt_trichotomy j k with hlt | heq | hgt
    · have : Nat.blt j k = true := Nat.blt_eq.mpr hlt
      rw [this]
      rcases pairLow j ej hlt hej with h | h | ⟨m, n, x, n', x', h1, _, _⟩
      · exact h
      · exact absurd ht (h.s1 t hdst)
      · rw [insDst j ej m n x hej h1] at hdst; cases hdst
    · subst heq
      have : Nat.blt j j = false := by cases hb : Nat.blt j j with | false => rfl | true => exact absurd (Nat.blt_eq.mp hb) (by omega)
      rw [this, hDk]
    · have : Nat.blt j k = false := by cases hb : Nat.blt j k with | false => rfl | true => exact absurd (Nat.blt_eq.mp hb) (by omega)
      rw [this]
      cases hDj : D j with
      | false => rfl
      | true =>
        rcases pairHigh j ej hgt hej hDj with h | ⟨m, n, x, n', x', _, h1, _⟩
        · exact absurd ht (h.s2 t hdst)
        · rw [insDst j ej m n' x' hej h1] at hdst; cases hdst
  have agreeH : e.ins = none → ∀ id ∈ needOf ops e.o e.tm e.orc, hD E s D id = e.h id := fun hni id hid => by
    rw [g6 id]
    refine runF_congr _ 0 _ _ _ _ id (fun j f hj hf => ?_) rfl
    rw [List.getElem?_map] at hj
    obtain ⟨ej, hej, rfl⟩ := Option.map_eq_some_iff.1 hj
    obtain ⟨r, hr⟩ := (R.rowF_some hej).1 hf
    have hm := lookL_mem hr
    simp only [Nat.zero_add]
    rcases Nat.lt_trichotomy j k with hlt | heq | hgt
    · have : Nat.blt j k = true := Nat.blt_eq.mpr hlt
      rw [this]
      rcases pairLow j ej hlt hej with h | h | ⟨m, n, x, n', x', _, h2, _⟩
      · exact h
      · exact absurd hid (h.r1 id hm)
      · rw [hni] at h2; cases h2
    · subst heq
      have : Nat.blt j j = false := by cases hb : Nat.blt j j with | false => rfl | true => exact absurd (Nat.blt_eq.mp hb) (by omega)
      rw [this, hDk]
    · have : Nat.blt j k = false := by cases hb : Nat.blt j k with | false => rfl | true => exact absurd (Nat.blt_eq.mp hb) (by omega)
      rw [this]
      cases hDj : D j with
      | false => rfl
      | true =>
        rcases pairHigh j ej hgt hej hDj with h | ⟨m, n, x, n', x', h2, _, _⟩
        · exact absurd hid (h.r2 id hm)
        · rw [hni] at h2; cases h2
  have ownFresh : ∀ i, s.nx + 64 * k ≤ i → i < s.nx + 64 * k + 64 → e.h i = none := fun i h1 h2 => by
    rw [g6 i, runF_none _ 0 _ _ i (fun j f hj hb => by
      rw [List.getElem?_map] at hj
      obtain ⟨ej, hej, rfl⟩ := Option.map_eq_some_iff.1 hj
      have hlt := Nat.blt_eq.mp hb
      cases hw : ej.rowF i with
      | none => rfl
      | some b =>
        obtain ⟨ek, q1, q2, q3, q4⟩ := R.writer h1 h2 j j ej (Nat.le_refl _) hej (by rw [hw]; rfl) (by omega)
        omega)]
    exact R.fresh i (by omega)
  have hfresh : ∀ i, s.nx + 64 * k ≤ i → i < s.nx + 64 * k + 64 → hD E s D i = none := fun i h1 h2 => by
    have := runF_none (E.map Ent.rowF) 0 D s.h i (fun j f hj hDj => by
      rw [List.getElem?_map] at hj
      obtain ⟨ej, hej, rfl⟩ := Option.map_eq_some_iff.1 hj
      rw [Nat.zero_add] at hDj
      cases hw : ej.rowF i with
      | none => rfl
      | some b =>
        exfalso
        have hjk : j ≠ k := fun h => by subst h; rw [hDk] at hDj; cases hDj
        obtain ⟨ek, q1, q2, q3, q4⟩ := R.writer h1 h2 j j ej (Nat.le_refl _) hej (by rw [hw]; rfl) hjk
        rw [hk] at q1
        cases q1
        obtain ⟨r, hr⟩ := (R.rowF_some hk).1 q2
        rcases pairHigh j ej q3 hej hDj with h | ⟨m, n, x, n', x', h3, _, _⟩
        · exact h.r1 i (lookL_mem hr) q4
        · obtain ⟨_, _, kd, es, p1, _, _, p4, _⟩ := ins_step h3 (R.step hk)
          rw [p4] at hr
          simp only [lookL] at hr
          cases hb : Nat.beq m i with
          | false => simp [hb] at hr
          | true =>
            have := Nat.eq_of_beq_eq_true hb
            subst this
            rw [ownFresh m h1 h2] at p1
            cases p1)
    unfold hD
    rw [this]
    exact R.fresh i (by omega)
  have hst : ∃ us', StepR P G ops e.o ρ (hD E s D) O w a e.v us' ∧ (hD E s D).upd us' = over e.rowF (hD E s D) := by
    cases hi : e.ins with
    | none =>
      refine ⟨e.us, stepE_soundW S (fun t ht => by rw [← agreeT t ht]; exact hs.2 t) (fun id hid r hr => by rw [agreeH hi id hid]; exact hr) hfresh g2 g4, ?_⟩
      funext id
      simp only [Heap.upd, over, Ent.rowF, hi]
      cases hl : lookL e.us id <;> rfl
    | some q =>
      obtain ⟨m, n, x⟩ := q
      obtain ⟨d1, d2, kd, es, d3, d4, d5, d6, d7⟩ := ins_step hi (R.step hk)
      have hrow : ∃ es', hD E s D m = some (.map kd es') ∧ memI es' n = false ∧ es'.length ≤ es.length + (E.map Ent.rowF).length := by
        have hg6 := g6 m
        rw [d3] at hg6
        refine runF_sub (n := n) (kd := kd) (k := k) (E.map Ent.rowF) 0 D s.h s.h m es (Nat.zero_le _) (.inl rfl) (fun j f g hj hlt hg => ?_) (fun j f g hj hge hDj hg => ?_) hg6.symm d4
        · rw [List.getElem?_map] at hj
          obtain ⟨ej, hej, rfl⟩ := Option.map_eq_some_iff.1 hj
          rw [Nat.zero_add] at hlt ⊢
          cases hji : ej.ins with
          | some q =>
            obtain ⟨m', n', x'⟩ := q
            simp only [Ent.rowF, hji] at hg
            cases hb : Nat.beq m m' with
            | false => simp [hb] at hg
            | true => simp only [hb, cond_true, Option.some.injEq] at hg; exact .inr ⟨n', x', hg.symm⟩
          | none =>
            have hgs := hg
            simp only [Ent.rowF, hji] at hg
            obtain ⟨r, hr, rfl⟩ := Option.map_eq_some_iff.1 hg
            refine .inl ⟨⟨some r, rfl⟩, ?_⟩
            rcases pairLow j ej hlt hej with h | h | ⟨_, _, _, _, _, h1, _, _⟩
            · exact h
            · exact absurd (by rw [d6]; simp) (h.r3 m (lookL_mem hr))
            · rw [hji] at h1; cases h1
        · rw [List.getElem?_map] at hj
          obtain ⟨ej, hej, rfl⟩ := Option.map_eq_some_iff.1 hj
          rw [Nat.zero_add] at hge hDj
          have hgt : k < j := by
            rcases Nat.lt_or_eq_of_le hge with h | h
            · exact h
            · subst h; rw [hDk] at hDj; cases hDj
          have hsome : ∃ r, lookL ej.us m = some r := (R.rowF_some hej).1 (by rw [hg]; rfl)
          obtain ⟨r, hr⟩ := hsome
          rcases pairHigh j ej hgt hej hDj with h | ⟨m1, n1, x1, n2, x2, h1, h2, h3⟩
          · exact absurd (lookL_mem hr) (h.r3 m (by rw [d6]; simp))
          · rw [hi] at h1
            cases h1
            simp only [Ent.rowF, h2, Nat.beq_refl, cond_true, Option.some.injEq] at hg
            exact ⟨n2, x2, hg.symm, fun h => h3 h.symm⟩
      obtain ⟨es', r1, r2, r3⟩ := hrow
      have hfew : es'.length < 1000000 := by
        have := R.ord.few
        rw [List.length_map, R.len] at r3
        omega
      obtain ⟨c', t1, t2⟩ := d7 (s.nx + 64 * k) (hD E s D) es' r1 r2 hfew
      refine ⟨_, stepE_soundW S (fun t ht => by rw [← agreeT t ht]; exact hs.2 t) (fun id hid r hr => hr) hfresh t1 t2, ?_⟩
      funext id
      simp only [Heap.upd, over, Ent.rowF, hi, lookL]
      cases hb : Nat.beq m id with
      | true =>
        have := Nat.eq_of_beq_eq_true hb
        subst this
        simp [r1, addR]
      | false =>
        have : Nat.beq id m = false := by cases hq : Nat.beq id m with | false => rfl | true => have := Nat.eq_of_beq_eq_true hq; subst this; simp at hb
        simp [this]
  obtain ⟨us', hst, hupd⟩ := hst
  have eT : putT (tmD E s D) e.o.dst e.v = tmD E s (fun j => Nat.beq j k || D j) := by
    rw [putT_over]
    funext t
    symm
    refine runF_insert (E.map Ent.slotF) k D s.tm t e.slotF (by rw [List.getElem?_map, hk]; rfl) hDk fun j f hjk hj hDj g hg g' hg' b => ?_
    rw [List.getElem?_map] at hj
    obtain ⟨ej, hej, rfl⟩ := Option.map_eq_some_iff.1 hj
    exfalso
    have hdst : ∀ (q : Ent) (g : AV → AV), q.slotF t = some g → q.o.dst = some t := fun q g hq => by
      unfold Ent.slotF at hq
      split at hq
      · cases hq
      · rename_i d hd
        cases hb : Nat.beq t d with
        | false => simp [hb] at hq
        | true => rw [Nat.eq_of_beq_eq_true hb]; exact hd
    rcases pairHigh j ej hjk hej hDj with h | ⟨m, n, x, n', x', h1, _, _⟩
    · exact absurd (hdst ej g' hg') (h.s3 t (hdst e g hg))
    · have := hdst e g hg
      rw [insDst k e m n x hk h1] at this
      cases this
  have eH : (hD E s D).upd us' = hD E s (fun j => Nat.beq j k || D j) := by
    rw [hupd]
    funext id
    symm
    refine runF_insert (E.map Ent.rowF) k D s.h id e.rowF (by rw [List.getElem?_map, hk]; rfl) hDk fun j f hjk hj hDj g hg g' hg' b => ?_
    rw [List.getElem?_map] at hj
    obtain ⟨ej, hej, rfl⟩ := Option.map_eq_some_iff.1 hj
    rcases pairHigh j ej hjk hej hDj with hap | ⟨m, n, x, n', x', h1, h2, h3⟩
    · obtain ⟨r, hr⟩ := (R.rowF_some hk).1 (by rw [hg]; rfl)
      obtain ⟨r', hr'⟩ := (R.rowF_some hej).1 (by rw [hg']; rfl)
      exact absurd (lookL_mem hr') (hap.r3 id (lookL_mem hr))
    · simp only [Ent.rowF, h1] at hg
      simp only [Ent.rowF, h2] at hg'
      cases hb : Nat.beq id m with
      | false => simp [hb] at hg
      | true =>
        simp only [hb, cond_true, Option.some.injEq] at hg hg'
        subst hg; subst hg'
        exact addR_comm h3 b
  have hwp := hst.wp (Q := Q) (K := K) S hs g3 fun ρ' O' w' x p1 p2 p3 => hK _ _ ⟨ρ', O', by rw [← eH]; exact p1, by rw [← eH, ← eT]; exact p2, by
    have : (a.put e.o.dst x).defers = a.defers := by cases e.o.dst <;> rfl
    rw [this, hdf], by rw [← eH]; exact F.trans p3⟩
  unfold wpOp
  rw [R.get hk]
  split at hwp
  · rename_i hw; simp only [hw, if_true]; exact .inl hwp
  · rename_i hw; simp only [hw, Bool.false_eq_true, if_false]; exact hwp

theorem Reg.any (R : Reg P G ops s E) {ρ0 : Lay} {O0 : Nat → Prop} {w0 : World} (hQ : ∀ a w, Done G E s ρ0 O0 w0 a0 (fun _ => true) a w → Q .normal a w) :
    ∀ (fuel : Nat) (listed : Array Bool) (a : Act) (w : World), listed.size = ops.size → (List.range ops.size).countP (fun j => !listed.getD j true) ≤ fuel → Closed ops (fun j => listed.getD j false) →
      Done G E s ρ0 O0 w0 a0 (fun j => listed.getD j false) a w → wpAny P .any ops Q fuel listed a w := by
  have hall : ∀ (listed : Array Bool), listed.size = ops.size → Region.ready .any ops listed = [] → ∀ j, j < ops.size → listed.getD j false = true := fun listed hsz hr j => by
    induction j using Nat.strongRecOn with
    | _ j ih =>
      intro hj
      apply Classical.byContradiction
      intro hn
      have hmem : j ∈ Region.ready .any ops listed := by
        rw [mem_ready]
        refine ⟨?_, ops[j], Array.getElem?_eq_getElem hj, fun e he hb => ?_⟩
        · have hlt : j < listed.size := by omega
          simp [hlt] at hn ⊢
          exact hn
        · have hx : e.on ∈ edgesOf ops j := by
            simp only [edgesOf, Array.getElem?_eq_getElem hj]
            exact edgeOn_mem (by simpa using he) hb
          have := R.ord.below j _ hx
          exact ih e.on this (by omega)
      rw [hr] at hmem
      cases hmem
  have hfin : ∀ (listed : Array Bool) a w, listed.size = ops.size → Region.ready .any ops listed = [] → Done G E s ρ0 O0 w0 a0 (fun j => listed.getD j false) a w → Q .normal a w := fun listed a w hsz hr hd => by
    refine hQ a w ?_
    have e1 : tmD E s (fun j => listed.getD j false) = tmD E s (fun _ => true) := by
      funext t
      refine runF_congr _ 0 _ _ _ _ t (fun j f hj hf => ?_) rfl
      have : j < ops.size := by rw [← R.len]; simpa using (List.getElem?_eq_some_iff.1 hj).1
      rw [Nat.zero_add]
      exact hall listed hsz hr j this
    have e2 : hD E s (fun j => listed.getD j false) = hD E s (fun _ => true) := by
      funext t
      refine runF_congr _ 0 _ _ _ _ t (fun j f hj hf => ?_) rfl
      have : j < ops.size := by rw [← R.len]; simpa using (List.getElem?_eq_some_iff.1 hj).1
      rw [Nat.zero_add]
      exact hall listed hsz hr j this
    obtain ⟨ρ, O, q1, q2, q3, q4⟩ := hd
    rw [e2] at q1 q2 q4
    rw [e1] at q2
    exact ⟨ρ, O, q1, q2, q3, q4⟩
  intro fuel
  induction fuel with
  | zero =>
    intro listed a w hsz hcnt hcl hd
    have hr : Region.ready .any ops listed = [] := by
      rw [List.eq_nil_iff_forall_not_mem]
      intro j hj
      obtain ⟨h0, o, ho, _⟩ := mem_ready.1 hj
      have hlt : j < ops.size := (Array.getElem?_eq_some_iff.1 ho).1
      have hz : (List.range ops.size).countP (fun j => !listed.getD j true) = 0 := by omega
      rw [List.countP_eq_zero] at hz
      have := hz j (List.mem_range.2 hlt)
      simp only [h0, Bool.not_false, not_true_eq_false] at this
    exact ⟨hr, hfin listed a w hsz hr hd⟩
  | succ fuel ih =>
    intro listed a w hsz hcnt hcl hd
    refine ⟨fun hr => hfin listed a w hsz hr hd, fun k hk => ?_⟩
    obtain ⟨h0, o, ho, hafter⟩ := mem_ready.1 hk
    have hlt : k < ops.size := (Array.getElem?_eq_some_iff.1 ho).1
    have hlt' : k < listed.size := by omega
    have hEk : E[k]? = some (E[k]'(by rw [R.len]; exact hlt)) := List.getElem?_eq_some_iff.2 ⟨by rw [R.len]; exact hlt, rfl⟩
    have hDk : listed.getD k false = false := by simp [hlt'] at h0 ⊢; exact h0
    have hed : ∀ x ∈ edgesOf ops k, listed.getD x false = true := fun x hx => by
      simp only [edgesOf, ho] at hx
      obtain ⟨e, he, hb, rfl⟩ := edgeOn_spec hx
      exact hafter e (by simpa using he) hb
    have hset : (fun j => (listed.setIfInBounds k true).getD j false) = (fun j => Nat.beq j k || listed.getD j false) := by
      funext j
      by_cases hjk : j = k
      · subst hjk; simp [hlt']
      · have : Nat.beq j k = false := by cases hb : Nat.beq j k with | false => rfl | true => exact absurd (Nat.eq_of_beq_eq_true hb) hjk
        simp only [this, Bool.false_or]
        exact getD_set_ne false (Ne.symm hjk)
    refine R.next hcl hEk hDk hed hd fun a' w' hd' => ih _ a' w' (by simp [hsz]) ?_ ?_ (by rw [hset]; exact hd')
    · have := countP_lt (p := fun j => !listed.getD j true) (q := fun j => !(listed.setIfInBounds k true).getD j true) (List.range ops.size) (fun x _ hx => by
        by_cases hxk : x = k
        · subst hxk; simp [hlt'] at hx
        · rw [getD_set_ne true (Ne.symm hxk)] at hx; exact hx) ⟨k, List.mem_range.2 hlt, by simp only [h0]; rfl, by simp [hlt']⟩
      omega
    · rw [hset]
      intro j hj x hx
      simp only [Bool.or_eq_true] at hj ⊢
      rcases hj with hj | hj
      · have := Nat.eq_of_beq_eq_true hj
        subst this
        exact .inr (hed x hx)
      · exact .inr (hcl j hj x hx)

theorem repl_false (n j : Nat) : (Array.replicate n false).getD j false = false := by
  rw [Array.getD_eq_getD_getElem?]
  by_cases hj : j < n
  · rw [Array.getElem?_replicate]; simp [hj]
  · rw [Array.getElem?_replicate]; simp [hj]

/-- A REGION, however its operations come. -/
theorem region_any {B : List Deferred} {id : Nat} {fs : List Foot} {ρ : Lay} {O : Nat → Prop} {a : Act} {w : World} (hm : P.follows .mixedOrders = true) (he : evOps P G ops ops.toList 0 s = some (s', fs)) (hok : ordersOk ops fs = true)
    (hC : AllP s'.c) (hfr : ∀ i, s.nx ≤ i → s.h i = none) (I : Inv G B ρ O s a w) (hQ : ∀ a' w', Goes G B ρ s.h O w s' a' w' → Q .normal a' w') :
    (Code.region id ops true).wp P Q a w := by
  obtain ⟨E, e1, e2, e3, e4, e5, e6, e7, e8⟩ := evOps_trace ops.toList 0 s s' fs he (ordersOk_nodefer hok) hC
  subst e2
  have R : Reg P G ops s E := ⟨by simpa using e1, fun j e o hj ho => e3 j e o hj (by simpa using ho), ordersOk_spec hok (fun j e hj => by
    have hlt : j < ops.size := by have := (List.getElem?_eq_some_iff.1 hj).1; simp at e1; omega
    have ho : ops[j]? = some ops[j] := Array.getElem?_eq_getElem hlt
    rw [ho, (e3 j e ops[j] hj (by simp)).1]), hfr⟩
  have hno : ∀ {β : Type} (F : List (Nat → Option (β → β))) (f : Nat → β), runF F 0 (fun j => (Array.replicate ops.size false).getD j false) f = f := fun F f => by
    funext x
    refine runF_none F 0 _ f x fun j e hj hd => ?_
    simp only [repl_false] at hd
    cases hd
  refine wp_region_any hm (R.any (a0 := a) (ρ0 := ρ) (O0 := O) (w0 := w) (fun a' w' hd => hQ a' w' ?_) ops.size _ a _ (by simp) ?_ ?_ ?_)
  · obtain ⟨ρ', O', q1, q2, q3, q4⟩ := hd
    have t1 : tmD E s (fun _ => true) = s'.tm := funext fun t => (e4 t).symm
    have t2 : hD E s (fun _ => true) = s'.h := funext fun t => (e5 t).symm
    rw [t2] at q1 q2 q4
    rw [t1, ← e7] at q2
    exact ⟨ρ', O', ⟨q1, q2, by rw [e6, q3]; exact I.defs⟩, q4⟩
  · exact Nat.le_trans List.countP_le_length (by simp)
  · intro j hj
    simp only [repl_false] at hj
    cases hj
  · refine ⟨ρ, O, ?_, ?_, rfl, ?_⟩
    · unfold hD; rw [hno]; exact I.sim.same rfl rfl rfl rfl
    · unfold hD tmD; rw [hno, hno]; exact I.slots.mono I.sim (Fr.same rfl rfl rfl rfl)
    · unfold hD; rw [hno]; exact Fr.same rfl rfl rfl rfl

end
end Go.Ax
/-
  An abstract machine for Go functions (part 20): code, pieces of code, whole functions.
-/
set_option linter.unusedVariables false
set_option linter.unusedSimpArgs false
namespace Go.Ax
open Go.RowKit

theorem closedL_mem : ∀ {l : List AV}, AV.closedL l = true → ∀ a ∈ l, a.closed = true
  | [], _, a, h => by cases h
  | b :: l, hl, a, h => by
    simp only [AV.closedL, Bool.and_eq_true] at hl
    rcases List.mem_cons.1 h with rfl | h
    · exact hl.1
    · exact closedL_mem hl.2 a h

theorem VR_closed {ρ : Lay} {h : Heap} {O : Nat → Prop} {w : World} {a : AV} {v : Value} (hv : VR ρ h O w a v) (hc : a.closed = true) : DR O w a v := by
  induction hv with
  | dr hd => exact hd
  | own => simp [AV.closed] at hc
  | ownGone => simp [AV.closed] at hc
  | ptr => simp [AV.closed] at hc
  | ptrGone => simp [AV.closed] at hc
  | mp => simp [AV.closed] at hc
  | mpGone => simp [AV.closed] at hc
  | tup => simp [AV.closed] at hc
  | agg h1 h2 ih =>
    simp only [AV.closed] at hc
    exact .agg h1 fun j c v hj hv => ih j c v hj hv (closedL_mem hc c (List.mem_of_getElem? hj))
  | ifc h1 ih => simp only [AV.closed] at hc; exact .ifc (ih hc)
  | opt h1 h2 ih => simp only [AV.closed] at hc; exact .opt (fun hp => ih hp hc) h2
  | clo h1 h2 h3 h4 ih1 ih2 =>
    simp only [AV.closed, Bool.and_eq_true] at hc
    exact .clo h1 h2 (fun j c v hj hv => ih1 j c v hj hv (closedL_mem hc.1 c (List.mem_of_getElem? hj))) (fun j c v hj hv => ih2 j c v hj hv (closedL_mem hc.2 c (List.mem_of_getElem? hj)))

theorem AV.frzL_map (k : Nat) (r : Row) : ∀ l, AV.frzL k r l = l.map (AV.frz k r)
  | [] => rfl
  | a :: l => by simp [AV.frzL, AV.frzL_map k r l]
theorem frzE_map (k : Nat) (r : Row) : ∀ l, frzE k r l = l.map (fun x => (x.1, AV.frz k r x.2))
  | [] => rfl
  | (n, a) :: l => by simp [frzE, frzE_map k r l]
theorem Row.frz_live (k : Nat) (r x : Row) : (frzRow k r x).live = x.live := by cases x <;> rfl
theorem Row.frz_isMap (k : Nat) (r x : Row) : (frzRow k r x).isMap = x.isMap := by cases x <;> rfl
theorem Row.frz_sz (k : Nat) (r x : Row) : (frzRow k r x).sz = x.sz := by cases x <;> rfl
theorem Row.frz_len (k : Nat) (r x : Row) : (frzRow k r x).len = x.len := by cases x <;> simp [frzRow, Row.len, AV.frzL_map]
theorem memI_frz (k : Nat) (r : Row) (n : Int) : ∀ es, memI (frzE k r es) n = memI es n
  | [] => rfl
  | (q, a) :: l => by simp [frzE, memI, memI_frz k r n l]

section
variable {P : Program} {G : Env} {ρ : Lay} {O : Nat → Prop} {w : World}
theorem canFrz_spec {r : Row} (h : canFrz r = true) : r.live = true ∧ r.isMap = false ∧ ∀ c ∈ r.cs, c.closed = true := by
  cases r with
  | bytes e bs => exact ⟨rfl, rfl, fun c hc => by simp only [Row.cs, List.mem_map] at hc; obtain ⟨b, _, rfl⟩ := hc; rfl⟩
  | cells e sz cs => exact ⟨rfl, rfl, fun c hc => closedL_mem h c hc⟩
  | gone => cases h
  | map => cases h

theorem freezeH {h hN : Heap} {k : Nat} {r : Row} (S : Sim G ρ h O w) (hk' : h k = some r) (hc : canFrz r = true)
    (hget : ∀ j x, h j = some x → hN j = some (if j = k then .gone else frzRow k r x))
    (hback : ∀ j x, hN j = some x → (j = k ∧ x = .gone) ∨ ∃ y, j ≠ k ∧ h j = some y ∧ x = frzRow k r y) :
    ∃ O1, Sim G ρ hN O1 w ∧ Fr ρ h O w ρ hN O1 w ∧ ∀ a v, VR ρ h O w a v → VR ρ hN O1 w (a.frz k r) v := by
  obtain ⟨hl, hm, hcl⟩ := canFrz_spec hc
  have hblk := S.block_lt hk' hl
  let O1 : Nat → Prop := fun b => O b ∨ b = (ρ k).1
  have F : Fr ρ h O w ρ hN O1 w :=
    { os := rfl, tape := rfl, output := rfl, size := Nat.le_refl _, keep := fun _ _ _ => rfl
      dom := fun id x hx => ⟨_, hget id x hx, fun hl' => by
        by_cases hik : id = k
        · rw [if_pos hik] at hl'; cases hl'
        · rw [if_neg hik] at hl' ⊢
          rw [Row.frz_live] at hl'
          exact ⟨hl', rfl, Row.frz_isMap _ _ _, Row.frz_sz _ _ _, by rw [Row.frz_len]; exact Nat.le_refl _, rfl⟩⟩
      own := fun id x hx hl' => by
        rcases hback id x hx with ⟨_, rfl⟩ | ⟨y, h1, h2, rfl⟩
        · cases hl'
        · rw [Row.frz_live] at hl'; exact .inl ⟨id, y, h2, hl', rfl⟩
      old := fun b hb => .inl hb
      oldnew := fun b hb => by
        rcases hb with hb | hb
        · exact .inl hb
        · exact .inr (.inl ⟨k, r, hk', hl, hb.symm⟩) }
  have hO1 : O1 (ρ k).1 := .inr rfl
  have hcell : ∀ (j : Nat) c, r.cs[j]? = some c → ∃ u, w.cell? ⟨(ρ k).1, (ρ k).2 + j, none⟩ = some u ∧ DR O1 w c u := fun j c hj => by
    obtain ⟨u, h1, h2⟩ := row_cell S hk' hl hm j c hj
    exact ⟨u, h1, DR_mono F.old (S.oldKept F) (VR_closed h2 (hcl c (List.mem_of_getElem? hj)))⟩
  have V : ∀ a v, VR ρ h O w a v → VR ρ hN O1 w (a.frz k r) v := by
    intro a v hv
    induction hv with
    | @dr a v hd =>
      have key : ∀ {a v}, DR O w a v → VR ρ hN O1 w (a.frz k r) v := by
        intro a v hd
        have hd' := DR_mono F.old (S.oldKept F) hd
        clear hd
        induction hd' with
        | dead v => exact .dr (.dead v)
        | lit v => exact .dr (.lit v)
        | bts h1 h2 h3 h4 h5 => exact .dr (.bts h1 h2 h3 h4 h5)
        | btsnil => exact .dr .btsnil
        | ro val h1 h2 h3 h4 h5 h6 h7 => exact .dr (.ro val h1 h2 h3 h4 h5 h6 h7)
        | ronil => exact .dr .ronil
        | rp val h1 h2 h3 => exact .dr (.rp val h1 h2 h3)
        | @agg cs vs h1 h2 ih =>
          refine .agg (by simp only [AV.frzL_map, List.length_map]; exact h1) fun j c v hc hv => ?_
          rw [AV.frzL_map, List.getElem?_map] at hc
          obtain ⟨c', hc', rfl⟩ := Option.map_eq_some_iff.1 hc
          exact ih j c' v hc' hv
        | ifc h ih => exact .ifc ih
        | opt h h' ih => exact .opt ih h'
        | @clo fn fs cp vf vc h1 h2 h3 h4 ih1 ih2 =>
          refine .clo (by simp only [AV.frzL_map, List.length_map]; exact h1) (by simp only [AV.frzL_map, List.length_map]; exact h2) (fun j c v hc hv => ?_) (fun j c v hc hv => ?_)
          · rw [AV.frzL_map, List.getElem?_map] at hc
            obtain ⟨c', hc', rfl⟩ := Option.map_eq_some_iff.1 hc
            exact ih1 j c' v hc' hv
          · rw [AV.frzL_map, List.getElem?_map] at hc
            obtain ⟨c', hc', rfl⟩ := Option.map_eq_some_iff.1 hc
            exact ih2 j c' v hc' hv
      exact key hd
    | @own id off len cap x a c m h1 h2 h3 h4 h5 h6 h7 h8 h8' h9 h10 h11 =>
      simp only [AV.frz]
      cases hb : Nat.beq id k with
      | false => simp only [cond_false]; exact VR_mono S F (.own h1 h2 h3 h4 h5 h6 h7 h8 h8' h9 h10 h11)
      | true =>
        have hik := Nat.eq_of_beq_eq_true hb
        subst hik
        rw [hk'] at h1
        cases h1
        simp only [cond_true]
        cases r with
        | gone => cases hl
        | map => cases hm
        | bytes e bs =>
          simp only [Row.sz, Row.len, Nat.mul_one] at h4 h10
          simp only [frzOwn]
          have hlen : ((bs.drop off).take len).length = len := by simp; omega
          have hx : VR ρ hN O1 w (.bts ((bs.drop off).take len)) (.slice (some a) ((bs.drop off).take len).length c) := by
            refine .dr (.bts (fun _ => h5) (fun _ => by rw [h6]; exact hO1) (by rw [hlen]; exact h8) h8' fun i b hi => ?_)
            have hlt := (List.getElem?_eq_some_iff.1 hi).1
            rw [hlen] at hlt
            rw [List.getElem?_take, if_pos hlt, List.getElem?_drop] at hi
            obtain ⟨u, e1, e2⟩ := hcell (off + i) (u8 b) (by simp [Row.cs, hi])
            obtain ⟨b', o', s'⟩ := a
            simp at h5 h6
            subst h5
            have h7' : o' = (ρ id).2 + off := h7 (.inl (by omega))
            cases e2
            rw [add_none, h6, h7', Nat.add_assoc]
            exact e1
          rw [hlen] at hx
          exact hx
        | cells e sz cs =>
          simp only [Row.sz, Row.len] at h4 h10
          simp only [frzOwn]
          let val : Nat → Nat → Value := fun i j => (w.cell? ⟨(ρ id).1, (ρ id).2 + (off + i * sz + j), none⟩).getD undef
          have hfit : ∀ i, i < len → off + i * sz + sz ≤ cs.length := fun i hi => by
            have : (i + 1) * sz ≤ len * sz := Nat.mul_le_mul_right _ hi
            rw [Nat.add_mul, Nat.one_mul] at this
            omega
          have hval : ∀ i j c, i < len → ((cs.drop (off + i * sz)).take sz)[j]? = some c → w.cell? ⟨(ρ id).1, (ρ id).2 + (off + i * sz + j), none⟩ = some (val i j) ∧ DR O1 w c (val i j) := fun i j c hi hj => by
            have hlt := (List.getElem?_eq_some_iff.1 hj).1
            simp at hlt
            rw [List.getElem?_take, if_pos (by omega), List.getElem?_drop] at hj
            obtain ⟨u, e1, e2⟩ := hcell (off + i * sz + j) c (by simpa [Row.cs] using hj)
            have : val i j = u := by simp only [val, e1, Option.getD_some]
            rw [this]
            exact ⟨e1, e2⟩
          refine .dr (.ro val (fun _ => h5) (fun _ => by rw [h6]; exact hO1) h8 h8' (fun i hi => by have := hfit i hi; simp; omega) (fun i j c hi hj => ?_) (fun i j c hi hj => (hval i j c hi hj).2))
          obtain ⟨b', o', s'⟩ := a
          simp at h5 h6
          subst h5
          have h7' : o' = (ρ id).2 + off := h7 (.inl (by omega))
          rw [add_none, h6, h7', show (ρ id).2 + off + (i * sz + j) = (ρ id).2 + (off + i * sz + j) by omega]
          exact (hval i j c hi hj).1
    | @ownGone id off len cap x a l c h1 h2 =>
      simp only [AV.frz]
      cases hb : Nat.beq id k with
      | false => simp only [cond_false]; exact VR_mono S F (.ownGone h1 h2)
      | true =>
        have hik := Nat.eq_of_beq_eq_true hb
        subst hik
        rw [hk'] at h1
        cases h1
        rw [hl] at h2
        cases h2
    | @ptr id off x h1 h2 h3 =>
      simp only [AV.frz]
      cases hb : Nat.beq id k with
      | false => simp only [cond_false]; exact VR_mono S F (.ptr h1 h2 h3)
      | true =>
        have hik := Nat.eq_of_beq_eq_true hb
        subst hik
        simp only [cond_true]
        refine .dr (.rp (fun j => (w.cell? ⟨(ρ id).1, (ρ id).2 + j, none⟩).getD undef) hO1 (fun j c hj => ?_) (fun j c hj => ?_))
        · obtain ⟨u, e1, e2⟩ := hcell j c hj
          rw [e1]; rfl
        · obtain ⟨u, e1, e2⟩ := hcell j c hj
          rw [e1]; exact e2
    | @ptrGone id off x a h1 h2 =>
      simp only [AV.frz]
      cases hb : Nat.beq id k with
      | false => simp only [cond_false]; exact VR_mono S F (.ptrGone h1 h2)
      | true =>
        have hik := Nat.eq_of_beq_eq_true hb
        subst hik
        rw [hk'] at h1
        cases h1
        rw [hl] at h2
        cases h2
    | mp h1 h2 => exact VR_mono S F (.mp h1 h2)
    | mpGone h1 h2 => exact VR_mono S F (.mpGone h1 h2)
    | @agg cs vs h1 h2 ih =>
      refine .agg (by simp only [AV.frzL_map, List.length_map]; exact h1) fun j c v hc hv => ?_
      rw [AV.frzL_map, List.getElem?_map] at hc
      obtain ⟨c', hc', rfl⟩ := Option.map_eq_some_iff.1 hc
      exact ih j c' v hc' hv
    | @tup cs vs h1 h2 ih =>
      refine .tup (by simp only [AV.frzL_map, List.length_map]; exact h1) fun j c v hc hv => ?_
      rw [AV.frzL_map, List.getElem?_map] at hc
      obtain ⟨c', hc', rfl⟩ := Option.map_eq_some_iff.1 hc
      exact ih j c' v hc' hv
    | ifc h ih => exact .ifc ih
    | opt h h' ih => exact .opt ih h'
    | @clo fn fs cp vf vc h1 h2 h3 h4 ih1 ih2 =>
      refine .clo (by simp only [AV.frzL_map, List.length_map]; exact h1) (by simp only [AV.frzL_map, List.length_map]; exact h2) (fun j c v hc hv => ?_) (fun j c v hc hv => ?_)
      · rw [AV.frzL_map, List.getElem?_map] at hc
        obtain ⟨c', hc', rfl⟩ := Option.map_eq_some_iff.1 hc
        exact ih1 j c' v hc' hv
      · rw [AV.frzL_map, List.getElem?_map] at hc
        obtain ⟨c', hc', rfl⟩ := Option.map_eq_some_iff.1 hc
        exact ih2 j c' v hc' hv
  refine ⟨O1, S.step F (fun id x hx hl' => ?_) (fun i j ri rj hi hj hli hlj he => ?_) (fun id x hx hl' hO => ?_) (fun b hb => ?_), F, V⟩
  · rcases hback id x hx with ⟨_, rfl⟩ | ⟨y, h1, h2, rfl⟩
    · cases hl'
    · refine .inr ?_
      have hr := S.rows id y h2
      cases y with
      | gone => trivial
      | map kd es =>
        obtain ⟨ents, clock, g1, g2, g3, g4, g5, g6⟩ := hr
        refine ⟨ents, clock, g1, by simpa [frzE_map] using g2, by simpa [frzE_map] using g3, fun j n a hj => ?_, fun e he => by obtain ⟨n, q1, q2⟩ := g5 e he; exact ⟨n, q1, by rw [memI_frz]; exact q2⟩, g6⟩
        rw [frzE_map, List.getElem?_map] at hj
        obtain ⟨⟨n', a'⟩, hj', he⟩ := Option.map_eq_some_iff.1 hj
        simp only [Prod.mk.injEq] at he
        obtain ⟨rfl, rfl⟩ := he
        obtain ⟨e, q1, q2, q3⟩ := g4 j n' a' hj'
        exact ⟨e, q1, q2, V _ _ q3⟩
      | cells e sz cs =>
        obtain ⟨cur, g1, g2, g3⟩ := hr
        refine ⟨cur, g1, by simpa [frzRow, Row.len, AV.frzL_map] using g2, fun j a hj => ?_⟩
        simp only [frzRow, Row.cs, AV.frzL_map, List.getElem?_map] at hj
        obtain ⟨a', hj', rfl⟩ := Option.map_eq_some_iff.1 hj
        obtain ⟨v, q1, q2⟩ := g3 j a' hj'
        exact ⟨v, q1, V _ _ q2⟩
      | bytes e bs =>
        obtain ⟨cur, g1, g2, g3⟩ := hr
        refine ⟨cur, g1, g2, fun j a hj => ?_⟩
        obtain ⟨v, q1, q2⟩ := g3 j a hj
        refine ⟨v, q1, ?_⟩
        simp only [frzRow, Row.cs, List.getElem?_map] at hj
        obtain ⟨b, hb, rfl⟩ := Option.map_eq_some_iff.1 hj
        have := V _ _ q2
        simpa [u8, AV.frz] using this
  · rcases hback i ri hi with ⟨_, rfl⟩ | ⟨y, h1, h2, rfl⟩
    · cases hli
    · rcases hback j rj hj with ⟨_, rfl⟩ | ⟨y', h1', h2', rfl⟩
      · cases hlj
      · rw [Row.frz_live] at hli hlj
        exact S.inj i j y y' h2 h2' hli hlj he
  · rcases hback id x hx with ⟨_, rfl⟩ | ⟨y, h1, h2, rfl⟩
    · cases hl'
    · rw [Row.frz_live] at hl'
      rcases hO with hO | hO
      · exact S.notO id y h2 hl' hO
      · exact h1 (S.inj id k y r h2 hk' hl' hl hO)
  · rcases hb with hb | hb
    · exact S.lt b hb
    · rw [hb]; exact hblk

end

section
variable {P : Program} {G : Env}

def Stat (P : Program) (s s' : St) : Prop :=
  ((∀ i, s.nx ≤ i → s.h i = none) → ∀ i, s'.nx ≤ i → s'.h i = none) ∧ s'.n = s.n ∧ (AllP s'.c → AllP s.c ∧ ((∀ p ∈ s.df, IdleD P p.1) → ∀ p ∈ s'.df, IdleD P p.1))

theorem Stat.trans {s s1 s2 : St} (h : Stat P s s1) (h' : Stat P s1 s2) : Stat P s s2 :=
  ⟨fun f => h'.1 (h.1 f), h'.2.1.trans h.2.1, fun c => ⟨(h.2.2 (h'.2.2 c).1).1, fun d => (h'.2.2 c).2 ((h.2.2 (h'.2.2 c).1).2 d)⟩⟩

theorem evOps_stat {ops : Array Oper} : ∀ (l : List Oper) (k : Nat) (s s' : St) (fs : List Foot), evOps P G ops l k s = some (s', fs) →
    ((∀ i, s.nx + 64 * k ≤ i → s.h i = none) → ∀ i, s.nx + 64 * (k + l.length) ≤ i → s'.h i = none) ∧ s'.n = s.n ∧ s'.nx = s.nx ∧ (AllP s'.c → AllP s.c ∧ ((∀ p ∈ s.df, IdleD P p.1) → ∀ p ∈ s'.df, IdleD P p.1))
  | [], k, s, s', fs, he => by
    simp [evOps] at he
    obtain ⟨rfl, rfl⟩ := he
    exact ⟨fun h => by simpa using h, rfl, rfl, fun c => ⟨c, fun d => d⟩⟩
  | o :: l, k, s, s', fs, he => by
    unfold evOps at he
    split at he
    · split at he
      · cases hd : dstOk s.n o.dst with
        | false => simp [hd] at he
        | true =>
          simp only [hd, cond_true] at he
          obtain ⟨⟨s2, fs2⟩, h1, h2⟩ := Option.map_eq_some_iff.1 he
          simp only [Prod.mk.injEq] at h2
          obtain ⟨rfl, rfl⟩ := h2
          obtain ⟨q1, q2, q3, q4⟩ := evOps_stat l (k + 1) _ _ _ h1
          refine ⟨fun hf i hi => q1 (fun i hi => hf i (by simp at hi; omega)) i (by simp at hi ⊢; omega), q2, q3, fun c => ⟨(q4 c).1.2, fun d => (q4 c).2 fun p hp => ?_⟩⟩
          rcases List.mem_cons.1 hp with rfl | hp
          · exact (q4 c).1.1
          · exact d p hp
      · cases he
    · split at he
      · rename_i hst
        cases hd : dstOk s.n o.dst with
        | false => simp [hd] at he
        | true =>
          simp only [hd, cond_true] at he
          obtain ⟨⟨s2, fs2⟩, h1, h2⟩ := Option.map_eq_some_iff.1 he
          simp only [Prod.mk.injEq] at h2
          obtain ⟨rfl, rfl⟩ := h2
          obtain ⟨q1, q2, q3, q4⟩ := evOps_stat l (k + 1) _ _ _ h1
          exact ⟨fun hf i hi => q1 (fun i hi => fresh_upd hst hf i (by simp at hi; omega)) i (by simp at hi ⊢; omega), q2, q3, fun c => ⟨(AllP_append.1 (q4 c).1).2, fun d => (q4 c).2 d⟩⟩
      · cases he

theorem backRows_none {L : List Nat} {fr n : Nat} {H' : List Row} {h : Heap} (hL : ∀ id ∈ L, ∃ r, h id = some r) (hf : ∀ i, fr ≤ i → h i = none) (hn : H'.length ≤ n) :
    ∀ i, fr + n ≤ i → (h.upd (backRows L fr 0 H')) i = none := fun i hi => by
  cases hl : lookL (backRows L fr 0 H') i with
  | none => rw [upd_none hl]; exact hf i (by omega)
  | some r =>
    exfalso
    obtain ⟨k, r0, h1, h2, h3⟩ := backRows_spec H' 0 i r hl
    have hlt := (List.getElem?_eq_some_iff.1 h1).1
    rw [Nat.zero_add] at h2
    by_cases hk : k < L.length
    · have hid : L[k]? = some L[k] := List.getElem?_eq_some_iff.2 ⟨hk, rfl⟩
      rw [backTo_lt hid] at h2
      simp at h2
      obtain ⟨r', hr'⟩ := hL _ (List.mem_of_getElem? hid)
      rw [h2, hf i (by omega)] at hr'
      cases hr'
    · rw [backTo_ge (by omega)] at h2
      simp at h2
      omega

theorem loopE_stat {body : Code} {s : St} {orc : List Orc} {L : List Nat} {vals : List (Nat × AV)} {H : List Row} {ex : AExit} {vals' : List (Nat × AV)} {H' : List Row} {ex' : AExit} {s' : St}
    (he : loopE P G body s orc L vals H ex vals' H' = some (ex', s')) : Stat P s s' := by
  unfold loopE at he
  cases hb : (nodupB L && allLive s.h L && Nat.ble L.length H'.length && slotsOk s.n vals) with
  | false => simp [hb] at he
  | true =>
    simp only [hb, cond_true, Option.some.injEq, Prod.mk.injEq] at he
    obtain ⟨rfl, rfl⟩ := he
    simp only [Bool.and_eq_true] at hb
    refine ⟨fun hf => backRows_none (fun id hm => ?_) hf (Nat.le_refl _), rfl, fun c => ⟨c.2.2.2, fun d => d⟩⟩
    obtain ⟨r, hr, _⟩ := allLive_spec hb.1.1.2 id hm
    exact ⟨r, hr⟩

theorem frzGo_stat {rid : Nat} : ∀ (l : List Orc) (s s' : St), frzGo rid l s = some s' → Stat P s s'
  | [], s, s', he => by simp only [frzGo, Option.some.injEq] at he; subst he; exact ⟨fun h => h, rfl, fun c => ⟨c, fun d => d⟩⟩
  | x :: l, s, s', he => by
    have stay : frzGo rid (x :: l) s = some { s with orc := x :: l } → Stat P s s' := fun e => by
      rw [e] at he
      simp only [Option.some.injEq] at he
      subst he
      exact ⟨fun h => h, rfl, fun c => ⟨c, fun d => d⟩⟩
    cases x with
    | frz q t =>
      cases hq : Nat.beq q rid with
      | false => exact stay (by simp [frzGo, hq])
      | true =>
        simp only [frzGo, hq, cond_true] at he
        split at he
        · split at he
          · rename_i id off len cap hid _ r hr
            cases hc : canFrz r with
            | false => simp only [hc, cond_false] at he; exact frzGo_stat l _ _ he
            | true =>
              simp only [hc, cond_true] at he
              have hpre : Stat P s { s with tm := fun u => (s.tm u).frz id r, h := s.h.frz id r } :=
                ⟨fun hn i hi => by simp only [Heap.frz, hn i hi, Option.map_none], rfl, fun c => ⟨c, fun d => d⟩⟩
              exact hpre.trans (frzGo_stat l _ _ he)
          · cases he
        · exact frzGo_stat l _ _ he
    | _ => exact stay (by simp [frzGo])

theorem iterE_stat {f : St → Option (AExit × St)} (hf : ∀ s s' ex, f s = some (ex, s') → Stat P s s') : ∀ (n : Nat) (s s' : St) (ex : AExit), iterE f n s = some (ex, s') → Stat P s s'
  | 0, s, s', ex, he => by cases he
  | n + 1, s, s', ex, he => by
    unfold iterE at he
    split at he
    · rename_i s1 h1
      exact (hf _ _ _ h1).trans (iterE_stat hf n _ _ _ he)
    · exact hf _ _ _ he

theorem evCode_stat : ∀ (c : Code) (s s' : St) (ex : AExit), evCode P G c s = some (ex, s') → Stat P s s' := by
  intro c
  have triv : ∀ s : St, Stat P s s := fun s => ⟨fun h => h, rfl, fun c => ⟨c, fun d => d⟩⟩
  induction c with
  | skip => intro s s' ex he; simp [evCode] at he; obtain ⟨_, rfl⟩ := he; exact triv s
  | label l => intro s s' ex he; simp [evCode] at he; obtain ⟨_, rfl⟩ := he; exact triv s
  | region id ops draw =>
    intro s s' ex he
    simp only [evCode] at he
    split at he
    · rename_i s0 h0
      have hz := frzGo_stat (P := P) _ _ _ h0
      split at he
      · rename_i s1 fs h1
        obtain ⟨q1, q2, q3, q4⟩ := evOps_stat _ _ _ _ _ h1
        cases hb : (!draw || ordersOk ops fs) with
        | false => simp [hb] at he
        | true =>
          simp only [hb, cond_true, Option.some.injEq, Prod.mk.injEq] at he
          obtain ⟨_, rfl⟩ := he
          exact hz.trans ⟨fun hf i hi => q1 (by simpa using hf) i (by simpa using hi), q2, q4⟩
      · cases he
    · cases he
  | seq x y ih1 ih2 =>
    intro s s' ex he
    simp only [evCode] at he
    split at he
    · rename_i s1 h1; exact (ih1 _ _ _ h1).trans (ih2 _ _ _ he)
    · exact ih1 _ _ _ he
  | cond x a b ih1 ih2 =>
    intro s s' ex he
    simp only [evCode] at he
    split at he
    · rename_i t o orc' h1 h2
      have hpre : ∀ c, Stat P s { s with c := c :: s.c, orc := orc' } := fun c => ⟨fun h => h, rfl, fun k => ⟨k.2, fun d => d⟩⟩
      cases o with
      | true => simp only [cond_true] at he; exact (hpre _).trans (ih1 _ _ _ he)
      | false => simp only [cond_false] at he; exact (hpre _).trans (ih2 _ _ _ he)
    · rename_i t orc' h1 h2
      cases t with
      | true => simp only [cond_true] at he; exact ih1 _ _ _ he
      | false => simp only [cond_false] at he; exact ih2 _ _ _ he
    · cases he
  | block id c ih =>
    intro s s' ex he
    simp only [evCode] at he
    split at he
    · rename_i i s1 h1
      cases hb : Nat.beq i id with
      | true => simp only [hb, cond_true, Option.some.injEq, Prod.mk.injEq] at he; obtain ⟨_, rfl⟩ := he; exact ih _ _ _ h1
      | false => simp only [hb, cond_false, Option.some.injEq, Prod.mk.injEq] at he; obtain ⟨_, rfl⟩ := he; exact ih _ _ _ h1
    · exact ih _ _ _ he
  | exit id => intro s s' ex he; simp [evCode] at he; obtain ⟨_, rfl⟩ := he; exact triv s
  | ret => intro s s' ex he; simp [evCode] at he; obtain ⟨_, rfl⟩ := he; exact triv s
  | scope c ih => intro s s' ex he; simp only [evCode] at he; exact ih _ _ _ he
  | loop body ih =>
    intro s s' ex he
    simp only [evCode] at he
    split at he
    · rename_i L vals H ex1 vals' H' orc' h1; exact loopE_stat he
    · rename_i n orc' h1
      have hpre : Stat P s { s with orc := orc' } := ⟨fun h => h, rfl, fun k => ⟨k, fun d => d⟩⟩
      exact hpre.trans (iterE_stat ih n _ _ _ he)
    · cases he
  | _ => intro s s' ex he; simp [evCode] at he

theorem assocT_mem : ∀ {vals : List (Nat × AV)} {t : Nat} {a : AV}, assocT vals t = some a → (t, a) ∈ vals
  | [], t, a, h => by simp [assocT] at h
  | (u, b) :: l, t, a, h => by
    simp only [assocT] at h
    cases hb : Nat.beq u t with
    | true => simp only [hb, cond_true, Option.some.injEq] at h; subst h; rw [Nat.eq_of_beq_eq_true hb]; simp
    | false => simp only [hb, cond_false] at h; exact List.mem_cons_of_mem _ (assocT_mem h)

theorem leSlots_spec {L : List Nat} {tm : Nat → AV} : ∀ {vals : List (Nat × AV)}, leSlots L tm vals → ∀ t a, (t, a) ∈ vals → Le ((tm t).ren (idxIn L 0)) a
  | [], _, t, a, hm => by cases hm
  | (u, b) :: l, ⟨h1, h2⟩, t, a, hm => by
    rcases List.mem_cons.1 hm with he | hm
    · cases he; exact h1
    · exact leSlots_spec h2 t a hm

theorem rounds_mono' {c : Code} {Q Q' : Exit → Act → World → Prop} (hq : ∀ e a w, Q e a w → Q' e a w) : ∀ (k : Nat) (a : Act) (w : World), Code.rounds P c Q k a w → Code.rounds P c Q' k a w
  | 0, a, w, h => h
  | k + 1, a, w, h => by
    rw [rounds_succ] at h ⊢
    refine wp_mono h fun e a' w' he => ?_
    cases e <;> first | exact rounds_mono' hq k a' w' he | exact hq _ _ _ he

theorem loop_sound {B : List Deferred} {body : Code} {s : St} {orc : List Orc} {L : List Nat} {vals : List (Nat × AV)} {H : List Row} {ex : AExit} {vals' : List (Nat × AV)} {H' : List Row} {ex' : AExit} {s' : St}
    {ρ : Lay} {O : Nat → Prop} {a : Act} {w : World} (he : loopE P G body s orc L vals H ex vals' H' = some (ex', s')) (hC : AllP s'.c) (hf : ∀ i, s.nx ≤ i → s.h i = none) (I : Inv G B ρ O s a w) :
    (Code.loop body).wp P (fun e a' w' => e = ex'.toExit ∧ Goes G B ρ s.h O w s' a' w') a w := by
  unfold loopE at he
  cases hb : (nodupB L && allLive s.h L && Nat.ble L.length H'.length && slotsOk s.n vals) with
  | false => simp [hb] at he
  | true =>
    simp only [hb, cond_true, Option.some.injEq, Prod.mk.injEq] at he
    obtain ⟨rfl, rfl⟩ := he
    simp only [Bool.and_eq_true] at hb
    obtain ⟨⟨⟨b1, b2⟩, b3⟩, b4⟩ := hb
    have b3' := Nat.le_of_ble_eq_true b3
    obtain ⟨c1, c2, c3, c4⟩ := hC
    have K : SubOk s.h L H := SubOk.of (fun id r h => h) b1 b2 c3
    refine wp_mono (c1 O (layOf ρ L) a w (K.sim I.sim) I.slots.1 fun t av hm => ?_) fun e a' w' hq => ?_
    · exact leSlots_spec c2 t av hm _ _ _ _ _ (VR_ren K.ren (I.slots.2 t))
    · obtain ⟨ρ2, O2, p1, p2, p3, p4, p5, p6⟩ := hq
      obtain ⟨q1, q2, q3⟩ := sub_back K I.sim b3' (fun i i1 _ => hf i i1) p5 p6
      refine ⟨p1, _, O2, ⟨q2, ⟨p2, fun t => ?_⟩, by rw [p3]; exact I.defs⟩, q3⟩
      show VR _ _ _ _ (((assocT vals' t).map (AV.ren (backTo L s.nx))).getD .dead) _
      cases hx : assocT vals' t with
      | none => exact .dr (.dead _)
      | some av => exact VR_ren q1 (p4 t av (assocT_mem hx))

theorem frzGo_sound {B : List Deferred} {rid : Nat} : ∀ (l : List Orc) (s s' : St) (ρ : Lay) (O : Nat → Prop) (a : Act) (w : World), frzGo rid l s = some s' → Inv G B ρ O s a w → Goes G B ρ s.h O w s' a w
  | [], s, s', ρ, O, a, w, he, I => by simp only [frzGo, Option.some.injEq] at he; subst he; exact ⟨ρ, O, ⟨I.sim, I.slots, I.defs⟩, Fr.refl _ _ _ _⟩
  | x :: l, s, s', ρ, O, a, w, he, I => by
    have stay : frzGo rid (x :: l) s = some { s with orc := x :: l } → Goes G B ρ s.h O w s' a w := fun e => by
      rw [e] at he
      simp only [Option.some.injEq] at he
      subst he
      exact ⟨ρ, O, ⟨I.sim, I.slots, I.defs⟩, Fr.refl _ _ _ _⟩
    cases x with
    | frz q t =>
      cases hq : Nat.beq q rid with
      | false => exact stay (by simp [frzGo, hq])
      | true =>
        simp only [frzGo, hq, cond_true] at he
        split at he
        · split at he
          · rename_i id off len cap hid _ r hr
            cases hc : canFrz r with
            | false => simp only [hc, cond_false] at he; exact frzGo_sound l _ _ ρ O a w he I
            | true =>
              simp only [hc, cond_true] at he
              obtain ⟨O1, S1, F1, V1⟩ := freezeH (hN := s.h.frz id r) I.sim hr hc
                (fun j x hj => by
                  by_cases hjk : j = id
                  · subst hjk; simp [Heap.frz, hj]
                  · have : Nat.beq j id = false := by cases hb : Nat.beq j id with | false => rfl | true => exact absurd (Nat.eq_of_beq_eq_true hb) hjk
                    simp [Heap.frz, hj, this, hjk])
                (fun j x hj => by
                  obtain ⟨y, hy, hxe⟩ := Option.map_eq_some_iff.1 hj
                  by_cases hjk : j = id
                  · subst hjk; simp at hxe; exact .inl ⟨rfl, hxe.symm⟩
                  · have : Nat.beq j id = false := by cases hb : Nat.beq j id with | false => rfl | true => exact absurd (Nat.eq_of_beq_eq_true hb) hjk
                    simp only [this, cond_false] at hxe
                    exact .inr ⟨y, hjk, hy, hxe.symm⟩)
              obtain ⟨ρ2, O2, I2, F2⟩ := frzGo_sound l { s with tm := fun u => (s.tm u).frz id r, h := s.h.frz id r } s' ρ O1 a w he ⟨S1, ⟨I.slots.1, fun t => V1 _ _ (I.slots.2 t)⟩, I.defs⟩
              exact ⟨ρ2, O2, I2, F1.trans F2⟩
          · cases he
        · exact frzGo_sound l _ _ ρ O a w he I
    | _ => exact stay (by simp [frzGo])

theorem iterE_sound {B : List Deferred} {body : Code} {f : St → Option (AExit × St)} (hst : ∀ s s' ex, f s = some (ex, s') → Stat P s s')
    (hf : ∀ (s s' : St) (ex : AExit) (ρ : Lay) (O : Nat → Prop) (a : Act) (w : World), f s = some (ex, s') → AllP s'.c → (∀ i, s.nx ≤ i → s.h i = none) → Inv G B ρ O s a w →
      body.wp P (fun e a' w' => e = ex.toExit ∧ Goes G B ρ s.h O w s' a' w') a w) :
    ∀ (n : Nat) (s s' : St) (ex : AExit) (ρ : Lay) (O : Nat → Prop) (a : Act) (w : World), iterE f n s = some (ex, s') → AllP s'.c → (∀ i, s.nx ≤ i → s.h i = none) → Inv G B ρ O s a w →
      Code.rounds P body (fun e a' w' => e = ex.toExit ∧ Goes G B ρ s.h O w s' a' w') n a w
  | 0, s, s', ex, ρ, O, a, w, he, _, _, _ => by cases he
  | n + 1, s, s', ex, ρ, O, a, w, he, hC, hnx, I => by
    unfold iterE at he
    rw [rounds_succ]
    split at he
    · rename_i s1 h1
      have st := iterE_stat hst n _ _ _ he
      have st1 := hst _ _ _ h1
      refine wp_mono (hf _ _ _ ρ O a w h1 (st.2.2 hC).1 hnx I) fun e a' w' ⟨e1, ρ1, O1, I1, F1⟩ => ?_
      subst e1
      refine rounds_mono' (fun e a'' w'' ⟨e2, ρ2, O2, I2, F2⟩ => ⟨e2, ρ2, O2, I2, F1.trans F2⟩) n a' w' (iterE_sound hst hf n _ _ _ ρ1 O1 a' w' he hC (st1.1 hnx) I1)
    · rename_i hne
      refine wp_mono (hf _ _ _ ρ O a w he hC hnx I) fun e a' w' ⟨e1, g⟩ => ?_
      subst e1
      cases ex with
      | normal => exact absurd he (hne s')
      | exit id => exact ⟨rfl, g⟩
      | ret => exact ⟨rfl, g⟩

/-- CODE. -/
theorem evCode_sound {B : List Deferred} (hm : P.follows .mixedOrders = true) : ∀ (c : Code) (s s' : St) (ex : AExit) (ρ : Lay) (O : Nat → Prop) (a : Act) (w : World), evCode P G c s = some (ex, s') → AllP s'.c →
    (∀ i, s.nx ≤ i → s.h i = none) → Inv G B ρ O s a w → c.wp P (fun e a' w' => e = ex.toExit ∧ Goes G B ρ s.h O w s' a' w') a w := by
  intro c
  have triv : ∀ (s : St) (ρ : Lay) (O : Nat → Prop) (a : Act) (w : World), Inv G B ρ O s a w → Goes G B ρ s.h O w s a w := fun s ρ O a w I => ⟨ρ, O, I, Fr.refl _ _ _ _⟩
  induction c with
  | skip => intro s s' ex ρ O a w he hC hf I; simp [evCode] at he; obtain ⟨rfl, rfl⟩ := he; exact wp_skip ⟨rfl, triv _ _ _ _ _ I⟩
  | label l => intro s s' ex ρ O a w he hC hf I; simp [evCode] at he; obtain ⟨rfl, rfl⟩ := he; exact wp_label ⟨rfl, triv _ _ _ _ _ I⟩
  | region id ops draw =>
    intro s s' ex ρ O a w he hC hf I
    simp only [evCode] at he
    split at he
    · rename_i s0 h0
      have hf0 := (frzGo_stat (P := P) _ _ _ h0).1 hf
      obtain ⟨ρ0, O0, I0, F0⟩ := frzGo_sound _ _ _ ρ O a w h0 I
      split at he
      · rename_i s1 fs h1
        cases hb : (!draw || ordersOk ops fs) with
        | false => simp [hb] at he
        | true =>
          simp only [hb, cond_true, Option.some.injEq, Prod.mk.injEq] at he
          obtain ⟨rfl, rfl⟩ := he
          have hgo : ∀ a' w', Goes G B ρ0 s0.h O0 w s1 a' w' → Goes G B ρ s.h O w { s1 with nx := s0.nx + 64 * ops.toList.length } a' w' := fun a' w' ⟨ρ', O', I', F'⟩ => ⟨ρ', O', ⟨I'.sim, I'.slots, I'.defs⟩, F0.trans F'⟩
          cases draw with
          | false => exact wp_region_list (evOps_seq ops.toList 0 s0 s1 fs ρ0 O0 a w h1 hC (by simpa using hf0) I0 fun a' w' g => ⟨rfl, hgo a' w' g⟩).2.2.2
          | true => exact region_any hm h1 (by simpa using hb) hC hf0 I0 fun a' w' g => ⟨rfl, hgo a' w' g⟩
      · cases he
    · cases he
  | seq x y ih1 ih2 =>
    intro s s' ex ρ O a w he hC hf I
    simp only [evCode] at he
    split at he
    · rename_i s1 h1
      have st := evCode_stat y _ _ _ he
      have st1 := evCode_stat x _ _ _ h1
      refine wp_seq (wp_mono (ih1 _ _ _ ρ O a w h1 (st.2.2 hC).1 hf I) fun e a' w' ⟨e1, ρ1, O1, I1, F1⟩ => ?_)
      subst e1
      refine wp_mono (ih2 _ _ _ ρ1 O1 a' w' he hC (st1.1 hf) I1) fun e a'' w'' ⟨e2, ρ2, O2, I2, F2⟩ => ⟨e2, ρ2, O2, I2, F1.trans F2⟩
    · rename_i hne
      refine wp_seq (wp_mono (ih1 _ _ _ ρ O a w he hC hf I) fun e a' w' ⟨e1, g⟩ => ?_)
      subst e1
      cases ex with
      | normal => exact absurd he (hne s')
      | exit id => exact ⟨rfl, g⟩
      | ret => exact ⟨rfl, g⟩
  | cond x p q ih1 ih2 =>
    intro s s' ex ρ O a w he hC hf I
    simp only [evCode] at he
    split at he
    · rename_i t o orc' h1 h2
      have hx := I.slots.eval x
      rw [h1] at hx
      have hv := VR_lit hx
      have I' : ∀ c, Inv G B ρ O { s with c := c :: s.c, orc := orc' } a w := fun c => ⟨I.sim, I.slots, I.defs⟩
      cases o with
      | true =>
        simp only [cond_true] at he
        have ht : t = true := ((evCode_stat p _ _ _ he).2.2 hC).1.1
        subst ht
        have hh := ih1 _ _ _ ρ O a w he hC hf (I' _)
        exact wp_cond_true hv hh
      | false =>
        simp only [cond_false] at he
        have ht : t = false := ((evCode_stat q _ _ _ he).2.2 hC).1.1
        subst ht
        have hh := ih2 _ _ _ ρ O a w he hC hf (I' _)
        exact wp_cond_false hv hh
    · rename_i t orc' h1 h2
      have hx := I.slots.eval x
      rw [h1] at hx
      have hv := VR_lit hx
      cases t with
      | true => simp only [cond_true] at he; exact wp_cond_true hv (ih1 _ _ _ ρ O a w he hC hf I)
      | false => simp only [cond_false] at he; exact wp_cond_false hv (ih2 _ _ _ ρ O a w he hC hf I)
    · cases he
  | block id c ih =>
    intro s s' ex ρ O a w he hC hf I
    simp only [evCode] at he
    split at he
    · rename_i i s1 h1
      cases hb : Nat.beq i id with
      | true =>
        simp only [hb, cond_true, Option.some.injEq, Prod.mk.injEq] at he
        obtain ⟨rfl, rfl⟩ := he
        refine wp_block (wp_mono (ih _ _ _ ρ O a w h1 hC hf I) fun e a' w' ⟨e1, g⟩ => ?_)
        subst e1
        simp only [AExit.toExit, Exit.inBlock, Nat.eq_of_beq_eq_true hb, if_true]
        exact ⟨trivial, g⟩
      | false =>
        simp only [hb, cond_false, Option.some.injEq, Prod.mk.injEq] at he
        obtain ⟨rfl, rfl⟩ := he
        refine wp_block (wp_mono (ih _ _ _ ρ O a w h1 hC hf I) fun e a' w' ⟨e1, g⟩ => ?_)
        subst e1
        have hne : i ≠ id := fun h => by subst h; simp at hb
        simp only [AExit.toExit, Exit.inBlock, hne, if_false]
        exact ⟨trivial, g⟩
    · rename_i hne
      refine wp_block (wp_mono (ih _ _ _ ρ O a w he hC hf I) fun e a' w' ⟨e1, g⟩ => ?_)
      subst e1
      cases ex with
      | normal => exact ⟨rfl, g⟩
      | exit id' => exact absurd he (hne id' s')
      | ret => exact ⟨rfl, g⟩
  | exit id => intro s s' ex ρ O a w he hC hf I; simp [evCode] at he; obtain ⟨rfl, rfl⟩ := he; exact wp_exit ⟨rfl, triv _ _ _ _ _ I⟩
  | ret => intro s s' ex ρ O a w he hC hf I; simp [evCode] at he; obtain ⟨rfl, rfl⟩ := he; exact wp_ret ⟨rfl, triv _ _ _ _ _ I⟩
  | scope c ih =>
    intro s s' ex ρ O a w he hC hf I
    simp only [evCode] at he
    refine wp_scope_straight (wp_mono (ih _ _ _ ρ O a w he hC hf I) fun e a' w' ⟨e1, g⟩ => ?_)
    subst e1
    cases ex <;> exact ⟨rfl, g⟩
  | loop body ih =>
    intro s s' ex ρ O a w he hC hf I
    simp only [evCode] at he
    split at he
    · rename_i L vals H ex1 vals' H' orc' h1; exact loop_sound he hC hf I
    · rename_i n orc' h1
      exact wp_loop_rounds n (iterE_sound (fun s s' ex h => evCode_stat body s s' ex h) ih n { s with orc := orc' } s' ex ρ O a w he hC hf ⟨I.sim, I.slots, I.defs⟩)
    · cases he
  | _ => intro s s' ex ρ O a w he; simp [evCode] at he

end
end Go.Ax
