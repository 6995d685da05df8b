/-
  An abstract machine for Go functions (part 9): places, fields, parts, assertions; stores.
-/
import Derived.Test.YtdfefemnlimeeaaDoorAx8
set_option linter.unusedVariables false
set_option linter.unusedSimpArgs false
namespace Go.Ax

section
variable {P : Program} {G : Env} {ρ : Lay} {h hr : Heap} {O : Nat → Prop} {w : World}

theorem indexAddr_sound {t : TypeId} {a i : AV} {x y : Value} {v : AV} {c : List Prop} (S : Sim G ρ h O w) (hsub : ∀ id r, hr id = some r → h id = some r)
    (ha : VR ρ h O w a x) (hi : VR ρ h O w i y) (he : indexAddrE P t a i hr = some (v, c)) (hC : AllP c) : ∃ z, (Instr.indexAt t x y).run P w = .ok z w ∧ VR ρ h O w v z := by
  unfold indexAddrE at he
  split at he
  · rename_i e n hu hn
    obtain ⟨k, rfl⟩ := intOf?_spec hi hn
    split at he
    · rename_i sz id off len cap hsz'
      have hsz := run_szOf (w := w) hsz'
      split at he
      · rename_i r hh
        cases hbe : (liveAt hr id && Nat.beq r.sz sz) with
        | false => simp [hbe] at he
        | true =>
        simp only [hbe, cond_true, Option.some.injEq, Prod.mk.injEq] at he
        obtain ⟨rfl, rfl⟩ := he
        simp only [Bool.and_eq_true] at hbe
        have hse : r.sz = sz := Nat.eq_of_beq_eq_true hbe.2
        subst hse
        obtain ⟨r', e1, e2, e3⟩ := liveAt_spec hbe.1
        rw [hh] at e1
        cases e1
        have hid := hsub _ _ hh
        obtain ⟨h0, h1⟩ := hC.1
        obtain ⟨a', c', m, rfl, k1, k2, k3, k4, k5, k6, k7, k8, k9⟩ := VR_own ha hid e2
        have hao := k4 (.inl (by omega))
        obtain ⟨b', o', s'⟩ := a'
        simp at k2 k3 hao
        subst k2; subst k3; subst hao
        refine ⟨.pointer (some ⟨(ρ id).1, (ρ id).2 + (off + n.toNat * r.sz), none⟩), ?_, .ptr hid e2 e3⟩
        simp [Instr.indexAt, run_underlying hu, asIntOf, h0, h1, hsz, add_none, Nat.add_assoc]
      · cases he
    · rename_i sz sz' m get hsz'
      have hsz := run_szOf (w := w) hsz'
      cases hbe : Nat.beq sz sz' with
      | false => simp [hbe] at he
      | true =>
      have hse : sz = sz' := Nat.eq_of_beq_eq_true hbe
      subst hse
      simp only [hbe, cond_true, Option.some.injEq, Prod.mk.injEq] at he
      obtain ⟨rfl, rfl⟩ := he
      obtain ⟨h0, h1⟩ := hC.1
      rcases VR_ro ha with ⟨rfl, rfl⟩ | ⟨a', cap, val, rfl, k1, k2, k3, k4, k5, k6, k7⟩
      · simp at h1; omega
      · have k1 := k1 (by omega)
        obtain ⟨b', o', s'⟩ := a'
        simp at k1
        subst k1
        refine ⟨.pointer (some ⟨b', o' + n.toNat * sz + 0, none⟩), ?_, .dr (.rp (fun j => val n.toNat j) (k2 (by omega)) (fun j c hj => ?_) (fun j c hj => k7 _ _ _ (by omega) hj))⟩
        · simp [Instr.indexAt, run_underlying hu, asIntOf, h0, h1, hsz, add_none]
        · have := k6 _ _ _ (by omega) hj
          rw [add_none, ← Nat.add_assoc] at this
          exact this
    · rename_i sz bs hsz'
      have hsz := run_szOf (w := w) hsz'
      cases hbe : Nat.beq sz 1 with
      | false => simp [hbe] at he
      | true =>
      have hse : sz = 1 := Nat.eq_of_beq_eq_true hbe
      subst hse
      simp only [hbe, cond_true, Option.some.injEq, Prod.mk.injEq] at he
      obtain ⟨rfl, rfl⟩ := he
      obtain ⟨h0, h1⟩ := hC.1
      rcases VR_bts ha with ⟨rfl, rfl⟩ | ⟨a', cap, rfl, k1, k2, k3, k4, k5⟩
      · simp at h1; omega
      · have k1 := k1 (by omega)
        obtain ⟨b', o', s'⟩ := a'
        simp at k1
        subst k1
        have hlt : n.toNat < bs.length := by omega
        refine ⟨.pointer (some ⟨b', o' + n.toNat + 0, none⟩), ?_, .dr (.rp (fun _ => .int .u8 (bs.getD n.toNat 0).toNat) (k2 (by omega)) (fun j c hj => ?_) (fun j c hj => ?_))⟩
        · simp [Instr.indexAt, run_underlying hu, asIntOf, h0, h1, hsz, add_none]
        · have hj0 : j = 0 := by
            have := (List.getElem?_eq_some_iff.1 hj).1
            simp at this
            exact this
          subst hj0
          have := k5 n.toNat bs[n.toNat] (by simp [hlt])
          rw [add_none] at this
          simp only [Nat.add_zero]
          rw [this]
          simp [List.getD_eq_getElem?_getD, hlt]
        · have hj0 : j = 0 := by
            have := (List.getElem?_eq_some_iff.1 hj).1
            simp at this
            exact this
          subst hj0
          simp at hj
          subst hj
          exact .lit _
    · cases he
  · rename_i m e n hu hn
    obtain ⟨k, rfl⟩ := intOf?_spec hi hn
    split at he
    · rename_i sz id off hsz'
      have hsz := run_szOf (w := w) hsz'
      cases hbe : (liveAt hr id && Nat.ble 2 m) with
      | false => simp [hbe] at he
      | true =>
      simp only [hbe, cond_true, Option.some.injEq, Prod.mk.injEq] at he
      obtain ⟨rfl, rfl⟩ := he
      simp only [Bool.and_eq_true] at hbe
      obtain ⟨r, e1, e2, e3⟩ := liveAt_spec hbe.1
      have hid := hsub _ _ e1
      have hx := VR_ptr ha hid e2
      subst hx
      obtain ⟨h0, h1⟩ := hC.1
      refine ⟨.pointer (some ⟨(ρ id).1, (ρ id).2 + (off + n.toNat * sz), none⟩), ?_, .ptr hid e2 e3⟩
      simp [Instr.indexAt, run_underlying hu, asIntOf, Instr.sureAddr, h0, h1, hsz, add_none, Nat.add_assoc]
    · rename_i sz cs off hsz'
      have hsz := run_szOf (w := w) hsz'
      cases hbe : Nat.ble 2 m with
      | false => simp [hbe] at he
      | true =>
      simp only [hbe, cond_true, Option.some.injEq, Prod.mk.injEq] at he
      obtain ⟨rfl, rfl⟩ := he
      obtain ⟨h0, h1⟩ := hC.1
      cases ha with
      | dr hd =>
        cases hd with
        | @rp cs off b o val k1 k2 k3 =>
          refine ⟨.pointer (some ⟨b, o + (off + n.toNat * sz), none⟩), ?_, .dr (.rp val k1 k2 k3)⟩
          simp [Instr.indexAt, run_underlying hu, asIntOf, Instr.sureAddr, h0, h1, hsz, add_none, Nat.add_assoc]
    · cases he
  · cases he

/-- A part of a value. -/
theorem part_sound {t : TypeId} {cs : List AV} {arr : Array Value} {off : Nat} {v : AV} (hl : cs.length = arr.size) (hv : ∀ (j : Nat) c u, cs[j]? = some c → arr[j]? = some u → VR ρ h O w c u)
    (he : partE P t cs off = some v) : ∃ z, (part t arr off).run P w = .ok z w ∧ VR ρ h O w v z := by
  unfold partE at he
  split at he
  · rename_i hag
    split at he
    · rename_i n hn
      cases hb : Nat.beq ((cs.drop off).take n).length n with
      | false => rw [hb] at he; simp at he
      | true =>
        simp only [hb, cond_true, Option.some.injEq] at he
        subst he
        have hlen : ((cs.drop off).take n).length = n := Nat.eq_of_beq_eq_true hb
        refine ⟨.agg (arr.extract off (off + n)), by simp only [part, Sem.run_bind, isAggB_run hag, Result.andThen_ok, if_true, run_szOf hn, Sem.run_pure], .agg ?_ fun j c u h1 h2 => ?_⟩
        · rw [hlen]
          simp only [List.length_take, List.length_drop, hl] at hlen
          simp
          omega
        · have hj : j < n := by
            have := (List.getElem?_eq_some_iff.1 h1).1
            omega
          rw [List.getElem?_take, if_pos hj, List.getElem?_drop] at h1
          rw [Array.getElem?_extract] at h2
          split at h2
          · exact hv _ c u h1 h2
          · cases h2
    · cases he
  · rename_i hag
    rw [nth_eq] at he
    have hlt := (List.getElem?_eq_some_iff.1 he).1
    have hu : arr[off]? = some arr[off] := Array.getElem?_eq_getElem (by omega)
    exact ⟨arr[off], by simp [part, isAggB_run hag, hu], hv _ _ _ he hu⟩
  · cases he

theorem index_sound {t : TypeId} {a i : AV} {x y : Value} {v : AV} {c : List Prop}
    (ha : VR ρ h O w a x) (hi : VR ρ h O w i y) (he : indexE P t a i = some (v, c)) (hC : AllP c) : ∃ z, (Instr.index t x y).run P w = .ok z w ∧ VR ρ h O w v z := by
  unfold indexE at he
  split at he
  · rename_i s n hu hn
    simp only [Option.some.injEq, Prod.mk.injEq] at he
    obtain ⟨rfl, rfl⟩ := he
    have hx := VR_lit ha
    subst hx
    obtain ⟨k, rfl⟩ := intOf?_spec hi hn
    obtain ⟨h0, h1⟩ := hC.1
    have hlt : n.toNat < s.size := by omega
    refine ⟨_, ?_, VR.ofLit _⟩
    have : s[n.toNat]? = some s[n.toNat] := by simp [hlt]
    simp only [Instr.index, Sem.run_bind, asIntOf, Sem.run_pure, Result.andThen_ok, run_underlying hu, h0, if_true, this]
    have hg : s.data.toList.getD n.toNat 0 = s[n.toNat] := by
      rw [List.getD_eq_getElem?_getD, Array.getElem?_toList, Array.getElem?_eq_getElem hlt]
      rfl
    rw [hg]
  · rename_i m e cs n hu hn
    split at he
    · rename_i sz hsz'
      have hsz := run_szOf (w := w) hsz'
      simp only [Option.map_eq_some_iff, Prod.mk.injEq] at he
      obtain ⟨v', hp, rfl, rfl⟩ := he
      obtain ⟨h0, h1⟩ := hC.1
      obtain ⟨k, rfl⟩ := intOf?_spec hi hn
      obtain ⟨vs, rfl, e1, e2⟩ := VR_agg ha
      obtain ⟨z, e3, e4⟩ := part_sound e1 e2 hp
      refine ⟨z, ?_, e4⟩
      simp [Instr.index, asIntOf, run_underlying hu, h0, h1, hsz, e3]
    · cases he
  · cases he

theorem fieldAddr_sound {t : TypeId} {a : AV} {x : Value} {k : Nat} {v : AV} (S : Sim G ρ h O w) (hsub : ∀ id r, hr id = some r → h id = some r)
    (ha : VR ρ h O w a x) (he : fieldAddrE P t a k hr = some v) : ∃ z, (Instr.fieldAt t x k).run P w = .ok z w ∧ VR ρ h O w v z := by
  unfold fieldAddrE at he
  split at he
  · rename_i fields hu
    split at he
    · rename_i fd hf
      split at he
      · rename_i n hn
        have hsz := run_szOf (w := w) hn
        cases hb : Nat.ble 1 n with
        | false => simp [hb] at he
        | true =>
        have h1n : n ≠ 0 := by have := Nat.le_of_ble_eq_true hb; omega
        simp only [hb, cond_true] at he
        have hf' : fields[k]? = some fd := by rw [nth_eq] at hf; simpa using hf
        split at he
        · rename_i id off
          cases hl : liveAt hr id with
          | false => simp [hl] at he
          | true =>
          simp only [hl, cond_true, Option.some.injEq] at he
          subst he
          obtain ⟨r, e1, e2, e3⟩ := liveAt_spec hl
          have hid := hsub _ _ e1
          have hx := VR_ptr ha hid e2
          subst hx
          refine ⟨.pointer (some ⟨(ρ id).1, (ρ id).2 + (off + fd.offset), none⟩), ?_, .ptr hid e2 e3⟩
          simp [Instr.fieldAt, run_underlying hu, hf', Instr.sureAddr, fieldPlace, hsz, h1n, add_none, Nat.add_assoc]
        · rename_i cs off
          simp only [Option.some.injEq] at he
          subst he
          cases ha with
          | dr hd =>
            cases hd with
            | @rp cs off b o val k1 k2 k3 =>
              refine ⟨.pointer (some ⟨b, o + (off + fd.offset), none⟩), ?_, .dr (.rp val k1 k2 k3)⟩
              simp [Instr.fieldAt, run_underlying hu, hf', Instr.sureAddr, fieldPlace, hsz, h1n, add_none, Nat.add_assoc]
        · cases he
      · cases he
    · cases he
  · cases he

theorem field_sound {t : TypeId} {a : AV} {x : Value} {k : Nat} {v : AV} (ha : VR ρ h O w a x) (he : fieldE P t a k = some v) : ∃ z, (Instr.field t x k).run P w = .ok z w ∧ VR ρ h O w v z := by
  unfold fieldE at he
  split at he
  · rename_i fields cs hu
    split at he
    · rename_i fd hf
      have hf' : fields[k]? = some fd := by rw [nth_eq] at hf; simpa using hf
      obtain ⟨vs, rfl, e1, e2⟩ := VR_agg ha
      obtain ⟨z, e3, e4⟩ := part_sound e1 e2 he
      exact ⟨z, by simp [Instr.field, run_underlying hu, hf', asAgg, e3], e4⟩
    · cases he
  · cases he

theorem extract_sound {a : AV} {x : Value} {k : Nat} {v : AV} (ha : VR ρ h O w a x) (he : extractE a k = some v) : ∃ z, (Instr.extract x k).run P w = .ok z w ∧ VR ρ h O w v z := by
  unfold extractE at he
  split at he
  · rename_i vs
    rw [nth_eq] at he
    obtain ⟨arr, rfl, e1, e2⟩ := VR_tup ha
    have hlt := (List.getElem?_eq_some_iff.1 he).1
    have hu : arr[k]? = some arr[k] := Array.getElem?_eq_getElem (by omega)
    exact ⟨arr[k], by simp [Instr.extract, hu], e2 _ _ _ he hu⟩
  · cases he

theorem mkIface_sound {t : TypeId} {a : AV} {x : Value} {v : AV} (ha : VR ρ h O w a x) (he : mkIfaceE P t a = some v) : ∃ z, (Instr.makeInterface t x).run P w = .ok z w ∧ VR ρ h O w v z := by
  unfold mkIfaceE at he
  split at he
  · cases he
  · cases he
  · rename_i d hn hu
    have hrun : (Instr.makeInterface t x).run P w = .ok (.iface t x) w := by
      cases d <;> simp_all [Instr.makeInterface, run_underlying hu]
    refine ⟨_, hrun, ?_⟩
    split at he
    · rename_i u
      cases he
      rw [VR_lit ha]
      exact VR.ofLit _
    · cases he
    · cases he
    · cases he
      exact .ifc ha

theorem assert_sound {t xt : TypeId} {a : AV} {x : Value} {v : AV} {ok : Bool} (ha : VR ρ h O w a x) (he : assertE P a t ok = some v) : ∃ z, (Instr.typeAssert x xt t ok).run P w = .ok z w ∧ VR ρ h O w v z := by
  unfold assertE at he
  split at he
  · rename_i t' c
    obtain ⟨u, rfl, hu'⟩ := VR_ifc ha
    split at he
    · cases he
    · cases he
    · rename_i d hn hu
      cases hb : Nat.beq t' t with
      | true =>
        have htt : t' = t := Nat.eq_of_beq_eq_true hb
        subst htt
        simp only [hb, cond_true, Option.some.injEq] at he
        cases ok with
        | true =>
          simp only [cond_true] at he
          subst he
          refine ⟨.tuple #[u, .bool true], ?_, .tup rfl fun j c' v' h1 h2 => ?_⟩
          · cases d <;> simp_all [Instr.typeAssert, run_underlying hu]
          · match j, h1, h2 with
            | 0, h1, h2 => simp at h1 h2; subst h1; subst h2; exact hu'
            | 1, h1, h2 => simp at h1 h2; subst h1; subst h2; exact VR.ofLit _
            | j + 2, h1, h2 => simp at h1
        | false =>
          simp only [cond_false] at he
          subst he
          refine ⟨u, ?_, hu'⟩
          cases d <;> simp_all [Instr.typeAssert, run_underlying hu]
      | false =>
        have htt : t' ≠ t := fun e => by subst e; simp at hb
        simp only [hb, cond_false] at he
        cases ok with
        | false => simp at he
        | true =>
          simp only [cond_true, Option.map_eq_some_iff] at he
          obtain ⟨z, hz, rfl⟩ := he
          have hzr : (zeroValue t).run P w = .ok z w := by
            cases hi : P.info? t with
            | none => simp [hi] at hz
            | some i => simp [hi] at hz; simp [zeroValue, typeInfo, hi, hz]
          refine ⟨.tuple #[z, .bool false], ?_, .tup rfl fun j c' v' h1 h2 => ?_⟩
          · cases d <;> simp_all [Instr.typeAssert, run_underlying hu]
          · match j, h1, h2 with
            | 0, h1, h2 => simp at h1 h2; subst h1; subst h2; exact VR.ofLit _
            | 1, h1, h2 => simp at h1 h2; subst h1; subst h2; exact VR.ofLit _
            | j + 2, h1, h2 => simp at h1
  · cases he
end
end Go.Ax
