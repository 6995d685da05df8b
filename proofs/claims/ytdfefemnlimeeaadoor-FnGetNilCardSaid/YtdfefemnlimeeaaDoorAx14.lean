/-
  An abstract machine for Go functions (part 14): maps whose keys are whole numbers.
-/
import Derived.Test.YtdfefemnlimeeaaDoorAx13
set_option linter.unusedVariables false
set_option linter.unusedSimpArgs false
namespace Go.Ax

section
variable {P : Program} {G : Env} {ρ : Lay} {h hr : Heap} {O : Nat → Prop} {w : World}

theorem makeMap_sound {t : TypeId} {rX : Option Operand} {f : Operand → AV} {g : Operand → Value} {fr : Nat} {v : AV} {us : List (Nat × Row)} {c : List Prop} (S : Sim G ρ h O w) (hfr : h fr = none)
    (he : makeMapE P t (rX.map f) fr = some (v, us, c)) : ∃ y w', (Instr.makeMap t (rX.map g)).run P w = .ok y w' ∧ Post G ρ h O w v us y w' := by
  unfold makeMapE at he
  split at he
  · rename_i kt e hr0 ht
    cases rX with
    | some x => simp at hr0
    | none =>
    split at he
    · rename_i kd hk
      simp only [Option.some.injEq, Prod.mk.injEq] at he
      obtain ⟨rfl, rfl, rfl⟩ := he
      have hb : ({ w with heap := w.heap.push (.map #[] 0) } : World).heap[w.heap.size]? = some (.map #[] 0) := by simp
      have N := step_new (r := .map kd []) (w' := { w with heap := w.heap.push (.map #[] 0) }) S hfr rfl rfl rfl rfl rfl (fun F => by
        refine ⟨#[], 0, by rw [setLay_same]; exact hb, rfl, by simp, fun j n a hj => by simp at hj⟩)
      refine ⟨.map (some w.heap.size), { w with heap := w.heap.push (.map #[] 0) }, by simp [Instr.makeMap], _, O, ?_, N.1, N.2⟩
      have := VR.mp (ρ := setLay ρ fr (w.heap.size, 0)) (O := O) (w := { w with heap := w.heap.push (.map #[] 0) }) (upd_one_same h fr (.map kd [])) rfl
      rw [setLay_same] at this
      exact this
    · cases he
  · cases he

/-- The first entry with a key. -/
theorem firstI_mem : ∀ (es : List (Int × AV)) (n : Int), memI es n = (firstI es n).isSome
  | [], n => rfl
  | (k, a) :: l, n => by
    simp only [memI, firstI]
    cases h : (k == n) <;> simp [firstI_mem l n]

/-- Entries as they lie. -/
def EntR (ρ : Lay) (h : Heap) (O : Nat → Prop) (w : World) (kd : IntKind) (es : List (Int × AV)) (ents : List MapEntry) : Prop :=
  ents.length = es.length ∧ ∀ (j : Nat) (n : Int) (a : AV), es[j]? = some (n, a) → ∃ e, ents[j]? = some e ∧ e.key = .int kd n ∧ VR ρ h O w a e.val

theorem findNow_sound {kd : IntKind} {n : Int} : ∀ (es : List (Int × AV)) (ents : List MapEntry) (i : Nat), EntR ρ h O w kd es ents →
    (firstI es n = none ∧ Instr.findNow (.int kd) (.int kd n) ents i = some none) ∨ ∃ a k val, firstI es n = some a ∧ Instr.findNow (.int kd) (.int kd n) ents i = some (some (k, val)) ∧ VR ρ h O w a val
  | [], ents, i, ⟨hl, _⟩ => by
    have : ents = [] := List.eq_nil_of_length_eq_zero (by simpa using hl)
    subst this
    exact .inl ⟨rfl, rfl⟩
  | (k, a) :: es, [], i, ⟨hl, _⟩ => by simp at hl
  | (k, a) :: es, e :: ents, i, ⟨hl, hv⟩ => by
    obtain ⟨e', h1, h2, h3⟩ := hv 0 k a rfl
    simp at h1
    subst h1
    have hrest : EntR ρ h O w kd es ents := ⟨by simpa using hl, fun j n a hj => hv (j + 1) n a (by simpa using hj)⟩
    simp only [firstI, Instr.findNow, h2, Instr.sameNow, if_true]
    by_cases hkn : k = n
    · subst hkn
      simp only [beq_self_eq_true, cond_true]
      exact .inr ⟨a, i, e.val, rfl, rfl, h3⟩
    · have e1 : (k == n) = false := by simpa using hkn
      have e2 : (n == k) = false := by simpa using Ne.symm hkn
      simp only [e1, e2, cond_false]
      exact findNow_sound es ents (i + 1) hrest

theorem checkKey_int {kt : TypeId} {kd k : IntKind} {n : Int} {b : Bool} (hk : P.underlying kt = some (.int kd)) : (Instr.checkKey b 10000 kt (.int k n)).run P w = .ok () w := by
  show (Instr.checkKey b (9999 + 1) kt (.int k n)).run P w = _
  rw [Instr.checkKey]
  simp [run_underlying hk]

theorem map_row (S : Sim G ρ h O w) {id : Nat} {kd : IntKind} {es : List (Int × AV)} (hid : h id = some (.map kd es)) :
    ∃ ents clock, w.heap[(ρ id).1]? = some (.map ents clock) ∧ EntR ρ h O w kd es ents.toList ∧ es.length ≤ 1000000 := by
  obtain ⟨ents, clock, e1, e2, e3, e4⟩ := S.rows _ _ hid
  exact ⟨ents, clock, e1, ⟨by simpa using e2, fun j n a hj => by obtain ⟨e, f1, f2, f3⟩ := e4 j n a hj; exact ⟨e, by simpa using f1, f2, f3⟩⟩, e3⟩

theorem VR_mp {id : Nat} {x : Value} {r : Row} (hv : VR ρ h O w (.mp id) x) (hid : h id = some r) (hl : r.live = true) : x = .map (some (ρ id).1) := by
  cases hv with
  | dr hd => cases hd
  | mp h1 h2 => rfl
  | mpGone h1 h2 => rw [hid] at h1; cases h1; rw [hl] at h2; cases h2

theorem insert_sound {t : TypeId} {m k x : AV} {mv kv xv : Value} {v : AV} {us : List (Nat × Row)} {c : List Prop} (S : Sim G ρ h O w) (hsub : ∀ id r, hr id = some r → h id = some r)
    (hm : VR ρ h O w m mv) (hk : VR ρ h O w k kv) (hx : VR ρ h O w x xv) (he : insertE P t m k x hr = some (v, us, c)) (hC : AllP c) :
    ∃ w', (Instr.mapUpdate t mv kv xv).run P w = .ok () w' ∧ Post G ρ h O w v us undef w' := by
  unfold insertE at he
  split at he
  · rename_i kt e id kd n ht
    split at he
    · rename_i kd' kd'' es hkt hh
      split at he
      · rename_i hkk
        obtain ⟨rfl, rfl⟩ := hkk
        cases hmem : memI es n with
        | true => simp [hmem] at he
        | false =>
        simp only [hmem, cond_false, Option.some.injEq, Prod.mk.injEq] at he
        obtain ⟨rfl, rfl, rfl⟩ := he
        have hlen : es.length < 1000000 := hC.1
        have hid := hsub _ _ hh
        have hmv := VR_mp hm hid rfl
        have hkv := VR_lit hk
        subst hmv; subst hkv
        obtain ⟨ents, clock, e1, e2, e3⟩ := map_row S hid
        have hb := S.block_lt hid rfl
        rcases findNow_sound (n := n) es ents.toList 0 e2 with ⟨f1, f2⟩ | ⟨a, k', val, f1, f2, f3⟩
        · refine ⟨{ w with heap := w.heap.setIfInBounds (ρ id).1 (.map (ents.push { key := .int kd n, val := xv, born := clock }) (clock + 1)) }, ?_, ?_⟩
          · simp [Instr.mapUpdate, run_underlying ht, getObj, Sem.run, e1, checkKey_int hkt, Instr.findKey, run_underlying hkt, f2, setObj]
          · have hnew : ({ w with heap := w.heap.setIfInBounds (ρ id).1 (.map (ents.push { key := .int kd n, val := xv, born := clock }) (clock + 1)) } : World).heap[(ρ id).1]? =
                some (.map (ents.push { key := .int kd n, val := xv, born := clock }) (clock + 1)) := by simp [hb]
            have W := step_write (r' := .map kd (es ++ [(n, x)])) (w' := { w with heap := w.heap.setIfInBounds (ρ id).1 (.map (ents.push { key := .int kd n, val := xv, born := clock }) (clock + 1)) })
              S hid rfl rfl rfl rfl (Nat.le_refl _) (fun b hb => by simp [Array.getElem?_setIfInBounds, Ne.symm hb]) (by simp) (by simp only [blockSize, hnew, e1]) rfl rfl rfl (fun F => by
                refine ⟨_, _, hnew, by have := e2.1; simp at this ⊢; exact this, by simp; omega, fun j n' a hj => ?_⟩
                by_cases hj1 : j < es.length
                · rw [List.getElem?_append_left hj1] at hj
                  obtain ⟨e, g1, g2, g3⟩ := e2.2 j n' a hj
                  have hjs : j < ents.size := by have := e2.1; simp at this; omega
                  refine ⟨e, ?_, g2, VR_mono S F g3⟩
                  rw [Array.getElem?_push, if_neg (by omega)]
                  simpa using g1
                · have hj2 : j = es.length := by
                    have := (List.getElem?_eq_some_iff.1 hj).1
                    simp at this
                    omega
                  subst hj2
                  simp at hj
                  obtain ⟨rfl, rfl⟩ := hj
                  have : ents.size = es.length := by have := e2.1; simpa using this
                  exact ⟨{ key := .int kd n, val := xv, born := clock }, by rw [← this]; simp, rfl, VR_mono S F hx⟩)
            exact ⟨ρ, O, VR.ofLit _, W.1, W.2⟩
        · rw [firstI_mem, f1] at hmem
          cases hmem
      · cases he
    · cases he
  · cases he

/-! ### look-ups -/
theorem litInts_get {kd : IntKind} {n z : Int} : ∀ {es : List (Int × AV)} {m : List (Int × Int)}, litInts kd es = some m →
    (firstI es n = none → mgetI m n z = z) ∧ ∀ a, firstI es n = some a → a = .lit (.int kd (mgetI m n z))
  | [], m, he => by simp [litInts] at he; subst he; exact ⟨fun _ => rfl, fun a ha => by simp [firstI] at ha⟩
  | (k, a0) :: es, m, he => by
    unfold litInts at he
    split at he
    · rename_i h0; cases h0
    · rename_i k' kd' v l h0
      simp only [List.cons.injEq, Prod.mk.injEq] at h0
      obtain ⟨⟨rfl, rfl⟩, rfl⟩ := h0
      split at he
      · rename_i r h2
        split at he
        · rename_i hk
          subst hk
          cases he
          obtain ⟨i1, i2⟩ := litInts_get (n := n) (z := z) h2
          simp only [firstI, mgetI]
          cases hkn : (k == n) with
          | true => simp only [cond_true]; exact ⟨fun h => (by cases h), fun a ha => by cases ha; rfl⟩
          | false => simp only [cond_false]; exact ⟨i1, i2⟩
        · cases he
      · cases he
    · cases he

theorem lookupI_sound {t : TypeId} {m i : AV} {mv iv : Value} {ok : Bool} {v : AV} (S : Sim G ρ h O w) (hsub : ∀ id r, hr id = some r → h id = some r)
    (hm : VR ρ h O w m mv) (hi : VR ρ h O w i iv) (he : lookupI P t m i ok hr = some v) :
    ∃ y, (Instr.lookup t mv iv ok).run P w = .ok y w ∧ VR ρ h O w v y := by
  unfold lookupI at he
  split at he
  · rename_i kt e id kd n ht
    split at he
    · rename_i kd' kd'' es kz z hkt hh hz
      split at he
      · rename_i hkk
        obtain ⟨rfl, rfl⟩ := hkk
        split at he
        · rename_i mm hmm
          cases he
          have hid := hsub _ _ hh
          have hmv := VR_mp hm hid rfl
          have hkv := VR_lit hi
          subst hmv; subst hkv
          obtain ⟨ents, clock, e1, e2, e3⟩ := map_row S hid
          obtain ⟨l1, l2⟩ := litInts_get (n := n) (z := z) hmm
          have fin : ∀ (x : Int) (b : Bool), VR ρ h O w (bif ok then .tup [.lit (.int kz x), .lit (.bool b)] else .lit (.int kz x)) (if ok then .tuple #[.int kz x, .bool b] else .int kz x) := fun x b => by
            cases ok with
            | false => exact VR.ofLit _
            | true =>
              refine .tup rfl fun j c u hc hu => ?_
              match j with
              | 0 => simp at hc hu; subst hc; subst hu; exact VR.ofLit _
              | 1 => simp at hc hu; subst hc; subst hu; exact VR.ofLit _
              | j + 2 => simp at hc
          have hzz : ∃ inf, P.info? e = some inf ∧ inf.zero = some (.int kz z) := by
            unfold zeroOf at hz
            cases hi : P.info? e with
            | none => simp [hi] at hz
            | some inf => exact ⟨inf, rfl, by simpa [hi] using hz⟩
          obtain ⟨inf, hinf, hinz⟩ := hzz
          rcases findNow_sound (n := n) es ents.toList 0 e2 with ⟨f1, f2⟩ | ⟨a, k', val, f1, f2, f3⟩
          · refine ⟨_, ?_, fin (mgetI mm n z) (memI es n)⟩
            rw [l1 f1, firstI_mem, f1]
            simp [Instr.lookup, run_underlying ht, getObj, Sem.run, e1, checkKey_int hkt, Instr.findKey, run_underlying hkt, f2, zeroValue, typeInfo, hinf, hinz]
          · refine ⟨_, ?_, fin (mgetI mm n z) (memI es n)⟩
            have := l2 a f1
            subst this
            have hval := VR_lit f3
            subst hval
            rw [firstI_mem, f1]
            simp [Instr.lookup, run_underlying ht, getObj, Sem.run, e1, checkKey_int hkt, Instr.findKey, run_underlying hkt, f2]
        · cases he
      · cases he
    · cases he
  · cases he

theorem lookupG_sound {t : TypeId} {m i : AV} {mv iv : Value} {ok : Bool} {v : AV} (S : Sim G ρ h O w) (hsub : ∀ id r, hr id = some r → h id = some r)
    (hm : VR ρ h O w m mv) (hi : VR ρ h O w i iv) (he : lookupG P t m i ok hr = some v) :
    ∃ y, (Instr.lookup t mv iv ok).run P w = .ok y w ∧ VR ρ h O w v y := by
  unfold lookupG at he
  split at he
  · rename_i kt e id kd n ht
    split at he
    · rename_i kd' kd'' es z hkt hh hz
      split at he
      · rename_i hkk
        obtain ⟨rfl, rfl⟩ := hkk
        have hid := hsub _ _ hh
        have hmv := VR_mp hm hid rfl
        have hkv := VR_lit hi
        subst hmv; subst hkv
        obtain ⟨ents, clock, e1, e2, e3⟩ := map_row S hid
        have fin : ∀ (a : AV) (x : Value) (b : Bool), VR ρ h O w a x → VR ρ h O w (bif ok then .tup [a, .lit (.bool b)] else a) (if ok then .tuple #[x, .bool b] else x) := fun a x b hax => by
          cases ok with
          | false => exact hax
          | true =>
            refine .tup rfl fun j c u hc hu => ?_
            match j with
            | 0 => simp at hc hu; subst hc; subst hu; exact hax
            | 1 => simp at hc hu; subst hc; subst hu; exact VR.ofLit _
            | j + 2 => simp at hc
        have hzz : ∃ inf, P.info? e = some inf ∧ inf.zero = some z := by
          unfold zeroOf at hz
          cases hi : P.info? e with
          | none => simp [hi] at hz
          | some inf => exact ⟨inf, rfl, by simpa [hi] using hz⟩
        obtain ⟨inf, hinf, hinz⟩ := hzz
        rcases findNow_sound (n := n) es ents.toList 0 e2 with ⟨f1, f2⟩ | ⟨a, k', val, f1, f2, f3⟩
        · rw [f1] at he
          cases he
          refine ⟨_, ?_, fin _ _ _ (VR.ofLit z)⟩
          simp [Instr.lookup, run_underlying ht, getObj, Sem.run, e1, checkKey_int hkt, Instr.findKey, run_underlying hkt, f2, zeroValue, typeInfo, hinf, hinz]
        · rw [f1] at he
          cases he
          refine ⟨_, ?_, fin _ _ _ f3⟩
          simp [Instr.lookup, run_underlying ht, getObj, Sem.run, e1, checkKey_int hkt, Instr.findKey, run_underlying hkt, f2]
      · cases he
    · cases he
  · cases he

theorem lookup_sound {t : TypeId} {m i : AV} {mv iv : Value} {ok : Bool} {v : AV} (S : Sim G ρ h O w) (hsub : ∀ id r, hr id = some r → h id = some r)
    (hm : VR ρ h O w m mv) (hi : VR ρ h O w i iv) (he : lookupE P t m i ok hr = some v) :
    ∃ y, (Instr.lookup t mv iv ok).run P w = .ok y w ∧ VR ρ h O w v y := by
  unfold lookupE at he
  split at he
  · rename_i v' hv'
    cases he
    exact lookupI_sound S hsub hm hi hv'
  · exact lookupG_sound S hsub hm hi he
end
end Go.Ax
