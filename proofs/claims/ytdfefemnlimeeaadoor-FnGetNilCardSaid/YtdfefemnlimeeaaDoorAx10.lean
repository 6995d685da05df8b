/-
  An abstract machine for Go functions (part 10): stores, make, append, copy.
-/
import Derived.Test.YtdfefemnlimeeaaDoorAx9
set_option linter.unusedVariables false
set_option linter.unusedSimpArgs false
namespace Go.Ax

section
variable {P : Program} {G : Env} {ρ : Lay} {h hr : Heap} {O : Nat → Prop} {w : World}

theorem seg_get {α : Type} (l vs : List α) (k j : Nat) (hk : k + vs.length ≤ l.length) :
    (l.take k ++ vs ++ l.drop (k + vs.length))[j]? = if k ≤ j ∧ j < k + vs.length then vs[j - k]? else l[j]? := by
  have hlk : (l.take k).length = k := by simp; omega
  by_cases h1 : j < k
  · rw [if_neg (by omega), List.append_assoc, List.getElem?_append_left (by omega), List.getElem?_take, if_pos h1]
  · by_cases h2 : j < k + vs.length
    · rw [if_pos (by omega), List.append_assoc, List.getElem?_append_right (by omega), hlk, List.getElem?_append_left (by omega)]
    · rw [if_neg (by omega), List.getElem?_append_right (by simp; omega), List.getElem?_drop]
      congr 1
      simp
      omega

/-- A row of cells is written. -/
theorem write_row {id : Nat} {r r' : Row} {cur arr : Array Value} (S : Sim G ρ h O w) (hid : h id = some r) (hl : r.live = true) (hm : r.isMap = false) (hl' : r'.live = true) (hm' : r'.isMap = false)
    (hsz : r'.sz = r.sz) (hlen : r.len ≤ r'.len) (hel : r'.elem = r.elem) (hcur : w.heap[(ρ id).1]? = some (.cells cur r.elem (0, 0))) (harr : arr.size = cur.size) (hfit : (ρ id).2 + r'.len ≤ arr.size)
    (hv : ∀ (j : Nat) a, r'.cs[j]? = some a → ∃ v, arr[(ρ id).2 + j]? = some v ∧ VR ρ h O w a v) :
    Sim G ρ (h.upd [(id, r')]) O (w.setRow (ρ id).1 arr) ∧ Fr ρ h O w ρ (h.upd [(id, r')]) O (w.setRow (ρ id).1 arr) := by
  have hb := setRow_heap w (ρ id).1 cur arr r.elem (0, 0) hcur
  refine step_write S hid hl hl' (by rw [hm, hm']) hsz hlen (fun b hb => setRow_other w _ b arr hb) (by simp) (by simp only [blockSize, hb, hcur, harr]) rfl rfl rfl fun F => ?_
  rw [rowR_cells hl' hm']
  refine ⟨arr, by rw [hel]; exact hb, by rw [Row.cs_length]; exact hfit, fun j a hj => ?_⟩
  obtain ⟨v, e1, e2⟩ := hv j a hj
  exact ⟨v, e1, VR_mono S F e2⟩

theorem allOne_vals {cs : List AV} {vs : List Value} (h1 : allOne cs = true) (hl : vs.length = cs.length) (hv : ∀ (j : Nat) c u, cs[j]? = some c → vs[j]? = some u → VR ρ h O w c u) : ∀ u ∈ vs, u.oneCell' = true := by
  intro u hu
  obtain ⟨j, hj, rfl⟩ := List.mem_iff_getElem.1 hu
  have hc : cs[j]? = some cs[j] := List.getElem?_eq_getElem (by omega)
  exact one_oneCell (allOne_spec h1 _ (List.getElem_mem _)) (hv j _ _ hc (List.getElem?_eq_getElem hj))

theorem store_sound {t : TypeId} {a x : AV} {ad y : Value} {v : AV} {us : List (Nat × Row)} {c : List Prop} (S : Sim G ρ h O w) (hsub : ∀ id r, hr id = some r → h id = some r)
    (ha : VR ρ h O w a ad) (hx : VR ρ h O w x y) (he : storeE P t a x hr = some (v, us, c)) (hC : AllP c) :
    ∃ w', (Instr.storeAt t ad y).run P w = .ok () w' ∧ Post G ρ h O w v us undef w' := by
  unfold storeE at he
  split at he
  · rename_i id off vs n hvs hn
    have hsz := run_szOf (w := w) hn
    obtain ⟨k1, k2⟩ := cells?_spec hvs hx
    cases hb : (Nat.beq vs.length n && allOne vs) with
    | false => simp [hb] at he
    | true =>
    simp only [hb, cond_true] at he
    simp only [Bool.and_eq_true] at hb
    have hvl : vs.length = n := Nat.eq_of_beq_eq_true hb.1
    have hone := allOne_vals (vs := y.cells.toList) hb.2 (by simp [k1]) (fun j c u h1 h2 => k2 j c u h1 (by simpa using h2))
    split at he
    · rename_i e sz cs hh
      simp only [Option.some.injEq, Prod.mk.injEq] at he
      obtain ⟨rfl, rfl, rfl⟩ := he
      have hfit : off + n ≤ cs.length := hC.1
      have hid := hsub _ _ hh
      have hp := VR_ptr ha hid rfl
      subst hp
      obtain ⟨cur, e1, e2, e3⟩ := row_cells S hid rfl rfl
      simp only [Row.elem, Row.len, Row.cs] at e1 e2 e3
      have hst := run_storeCells_at P (ρ id).1 ((ρ id).2 + off) e y.cells.toList 0 cur w e1 (by simp [k1]; omega) hone
      simp only [Nat.add_zero] at hst
      have hW := write_row (r' := .cells e sz (setL cs off vs)) (arr := (cur.toList.take ((ρ id).2 + off) ++ y.cells.toList ++ cur.toList.drop ((ρ id).2 + off + y.cells.toList.length)).toArray)
        S hid rfl rfl rfl rfl rfl (by simp [Row.len, length_setL]) rfl e1 (by simp [k1]; omega) (by simp [Row.len, length_setL, k1]; omega) (fun j a hj => by
          simp only [Row.cs] at hj
          rw [setL_get vs cs off j (by omega)] at hj
          simp only [List.getElem?_toArray]
          rw [seg_get _ _ _ _ (by simp [k1]; omega)]
          by_cases hin : off ≤ j ∧ j < off + vs.length
          · rw [if_pos hin] at hj
            rw [if_pos (by simp [k1]; omega)]
            have hlt : j - off < y.cells.toList.length := by simp [k1]; omega
            have : (ρ id).2 + j - ((ρ id).2 + off) = j - off := by omega
            rw [this]
            exact ⟨y.cells.toList[j - off], List.getElem?_eq_getElem hlt, k2 (j - off) a _ hj (by simp)⟩
          · rw [if_neg hin] at hj
            rw [if_neg (by simp [k1]; omega)]
            obtain ⟨u, g1, g2⟩ := e3 j a hj
            exact ⟨u, by simpa using g1, g2⟩)
      refine ⟨_, ?_, ρ, O, VR.ofLit _, hW.1, hW.2⟩
      simp [Instr.storeAt, Instr.sureAddr, storeVar, hsz, k1, hvl, hst]
    · rename_i e bs hh
      split at he
      · rename_i k
        simp only [Option.some.injEq, Prod.mk.injEq] at he
        obtain ⟨rfl, rfl, rfl⟩ := he
        obtain ⟨hfit, h0, h255⟩ := hC.1
        have hid := hsub _ _ hh
        have hp := VR_ptr ha hid rfl
        subst hp
        obtain ⟨cur, e1, e2, e3⟩ := row_cells S hid rfl rfl
        simp only [Row.elem, Row.len, Row.cs] at e1 e2 e3
        have hcells : y.cells.toList = [.int .u8 k] := by
          have hl1 : y.cells.toList.length = 1 := by simp [k1]
          match hq : y.cells.toList, hl1 with
          | [u], _ =>
            have := k2 0 (.lit (.int .u8 k)) u rfl (by rw [← Array.getElem?_toList, hq]; rfl)
            rw [VR_lit this]
        have hst := run_storeCells_at P (ρ id).1 ((ρ id).2 + off) e y.cells.toList 0 cur w e1 (by simp [k1]; omega) hone
        simp only [Nat.add_zero] at hst
        have hW := write_row (r' := .bytes e (bs.set off (UInt8.ofNat k.toNat))) (arr := (cur.toList.take ((ρ id).2 + off) ++ y.cells.toList ++ cur.toList.drop ((ρ id).2 + off + y.cells.toList.length)).toArray)
          S hid rfl rfl rfl rfl rfl (by simp [Row.len]) rfl e1 (by simp [k1]; omega) (by simp [Row.len, k1]; omega) (fun j a hj => by
            simp only [Row.cs, List.getElem?_map, List.getElem?_set] at hj
            simp only [List.getElem?_toArray]
            rw [seg_get _ _ _ _ (by simp [k1]; omega)]
            by_cases hin : off = j
            · subst hin
              rw [if_pos (by simp [k1])]
              rw [if_pos rfl, if_pos hfit] at hj
              simp only [Option.map_some, Option.some.injEq] at hj
              subst hj
              rw [hcells]
              refine ⟨.int .u8 k, by simp, ?_⟩
              have : ((UInt8.ofNat k.toNat).toNat : Int) = k := by simp; omega
              unfold u8
              rw [this]
              exact VR.ofLit _
            · rw [if_neg hin] at hj
              rw [if_neg (by simp [k1]; omega)]
              obtain ⟨u, g1, g2⟩ := e3 j a (by simpa using hj)
              exact ⟨u, by simpa using g1, g2⟩)
        refine ⟨_, ?_, ρ, O, VR.ofLit _, hW.1, hW.2⟩
        simp only [List.length_cons, List.length_nil] at hvl k1
        simp [Instr.storeAt, Instr.sureAddr, storeVar, hsz, k1, ← hvl, hst]
      · cases he
    · cases he
  · cases he
end
end Go.Ax
