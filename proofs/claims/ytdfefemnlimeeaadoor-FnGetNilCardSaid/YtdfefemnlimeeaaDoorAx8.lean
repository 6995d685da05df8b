/-
  An abstract machine for Go functions (part 8): conversions, lengths, slices, fields, indexes, assertions.
-/
import Derived.Test.YtdfefemnlimeeaaDoorAx7
import Derived.Laws.BytesArg
import Derived.Lib.ConvBytes
set_option linter.unusedVariables false
set_option linter.unusedSimpArgs false
namespace Go.Ax

section
variable {P : Program} {G : Env} {ρ : Lay} {h hr : Heap} {O : Nat → Prop} {w : World}

theorem isU8_info {e : TypeId} (hb : isU8 P e = true) : P.underlying e = some (.int .u8) ∧ ∃ i, P.info? e = some i ∧ i.size = 1 ∧ i.bytes = 1 ∧ i.zero = some (.int .u8 0) := by
  unfold isU8 at hb
  split at hb
  · rename_i i hu hi
    simp only [Bool.and_eq_true] at hb
    refine ⟨hu, i, hi, Nat.eq_of_beq_eq_true hb.1.1, Nat.eq_of_beq_eq_true hb.1.2, ?_⟩
    have hz := hb.2
    unfold zeroU8 at hz
    split at hz
    · assumption
    · cases hz
  · cases hb

theorem isU8_spec {e : TypeId} (hb : isU8 P e = true) : P.underlying e = some (.int .u8) := (isU8_info hb).1

theorem isU8_size {e : TypeId} (hb : isU8 P e = true) : szOf P e = some 1 := by
  obtain ⟨_, i, hi, h1, _⟩ := isU8_info hb
  simp [szOf, hi, h1]

theorem ofNat_u8 (b : UInt8) : UInt8.ofNat ((b.toNat : Int)).toNat = b := by simp

/-- A slice of bytes to a string. -/
theorem conv_bytes_run {src dst e : TypeId} {bs : List UInt8} {a : Addr} {cap : Nat} (hs : P.underlying src = some (.slice e)) (he : P.underlying e = some (.int .u8)) (hd : P.underlying dst = some .string)
    (hsp : 0 < bs.length → a.spot = none) (hcell : ∀ (i : Nat) (b : UInt8), bs[i]? = some b → w.cell? (a.add i) = some (.int .u8 b.toNat)) :
    (convert src dst (.slice (some a) bs.length cap)).run P w = .ok (.string ⟨bs.toArray⟩) w := by
  rcases Nat.eq_zero_or_pos bs.length with h0 | h0
  · have : bs = [] := List.eq_nil_of_length_eq_zero h0
    subst this
    have h1 : (loadCells a 0).run P w = .ok #[] w := rfl
    simp [convert, run_underlying hs, run_underlying hd, run_underlying he, Conv.bytesToString, h1]
    rfl
  have hsp := hsp h0
  obtain ⟨b, o, sp⟩ := a
  simp at hsp
  subst hsp
  have := run_convert_bytes_arg (P := P) w src e hs he b o bs.length cap (bs.map fun b => (b.toNat : Int)) (by simp) (fun i hi => by
    have := hcell i bs[i] (by simp [hi])
    rw [add_none] at this
    rw [this]
    simp [List.getD_eq_getElem?_getD, hi]) dst hd
  rw [this]
  congr 3
  simp [strOfNums, Function.comp_def]

theorem sub_cells (S : Sim G ρ h O w) {id off len : Nat} {cap : Option Nat} {x : Value} {r : Row} (hv : VR ρ h O w (.own id off len cap) x) (hid : h id = some r) (hl : r.live = true) (hm : r.isMap = false) :
    ∃ a c, x = .slice (some a) len c ∧ a.spot = none ∧ ∀ (j : Nat) c, ((r.cs.drop off).take (len * r.sz))[j]? = some c → ∃ u, w.cell? (a.add j) = some u ∧ VR ρ h O w c u := by
  obtain ⟨a, c, m, hx, h1, h2, h3, h4, h5, h6, h7, h8, h9⟩ := VR_own hv hid hl
  refine ⟨a, c, hx, h2, fun j c' hj => ?_⟩
  have hlt := (List.getElem?_eq_some_iff.1 hj).1
  simp at hlt
  have hlen : 0 < len := by
    rcases Nat.eq_zero_or_pos len with h0 | h0
    · subst h0; simp at hlt
    · exact h0
  rw [List.getElem?_take, if_pos (by omega), List.getElem?_drop] at hj
  obtain ⟨u, e1, e2⟩ := row_cell S hid hl hm _ _ hj
  refine ⟨u, ?_, e2⟩
  obtain ⟨b, o, sp⟩ := a
  simp at h2 h3
  subst h2
  have h4' : o = (ρ id).2 + off := h4 (.inl hlen)
  rw [add_none, ← e1, h3, h4', Nat.add_assoc]

theorem conv_sound {src dst : TypeId} {a : AV} {x : Value} {v : AV} {c : List Prop} (S : Sim G ρ h O w) (hsub : ∀ id r, hr id = some r → h id = some r)
    (ha : VR ρ h O w a x) (he : convE P src dst a hr = some (v, c)) (hC : AllP c) : ∃ y w', (convert src dst x).run P w = .ok y w' ∧ Post G ρ h O w v [] y w' := by
  unfold convE at he
  split at he
  · rename_i e bs hs hd
    cases hb : isU8 P e with
    | false => simp [hb] at he
    | true =>
      simp only [hb, cond_true, Option.some.injEq, Prod.mk.injEq] at he
      obtain ⟨rfl, rfl⟩ := he
      have hu := isU8_spec hb
      rcases VR_bts ha with ⟨rfl, rfl⟩ | ⟨a', cap, rfl, h1, h2, h3, h4, h5⟩
      · exact ⟨_, w, run_convert_bytes_nil w src e hs hu 0 0 dst hd, post_pure S (VR.ofLit _)⟩
      · exact ⟨_, w, conv_bytes_run hs hu hd h1 h5, post_pure S (VR.ofLit _)⟩
  · rename_i e id off len cap hs hd
    cases hb : isU8 P e with
    | false => simp [hb] at he
    | true =>
      simp only [hb, cond_true] at he
      have hu := isU8_spec hb
      split at he
      · rename_i e' bs hh
        simp only [Option.some.injEq, Prod.mk.injEq] at he
        obtain ⟨rfl, rfl⟩ := he
        have hid := hsub _ _ hh
        obtain ⟨a', c', hx, h1, h2⟩ := sub_cells S ha hid rfl rfl
        obtain ⟨_, _, _, _, hfit, _⟩ := VR_own ha hid rfl
        simp only [Row.sz, Row.len, Nat.mul_one] at hfit h2
        have hlen : ((bs.drop off).take len).length = len := by simp; omega
        subst hx
        refine ⟨_, w, ?_, post_pure S (VR.ofLit _)⟩
        have := conv_bytes_run (P := P) (w := w) (bs := (bs.drop off).take len) (cap := c') hs hu hd (fun _ => h1) (fun i b hi => by
          obtain ⟨u, e1, e2⟩ := h2 i (u8 b) (by
            simp only [Row.cs, ← List.map_drop, ← List.map_take, List.getElem?_map, hi, Option.map_some])
          rw [e1, VR_lit e2])
        rw [hlen] at this
        exact this
      · rename_i e' cs hh
        simp only [Option.some.injEq, Prod.mk.injEq] at he
        obtain ⟨rfl, rfl⟩ := he
        have hid := hsub _ _ hh
        obtain ⟨a', c', hx, h1, h2⟩ := sub_cells S ha hid rfl rfl
        obtain ⟨_, _, _, _, hfit, _⟩ := VR_own ha hid rfl
        simp only [Row.sz, Row.len, Nat.mul_one] at hfit h2
        have hby : (cs.drop off).take len = (((cs.drop off).take len).filterMap toB).map u8 := hC.1
        have hlen : (((cs.drop off).take len).filterMap toB).length = len := by
          have h0 := congrArg List.length hby
          simp only [List.length_map] at h0
          rw [← h0]
          simp
          omega
        subst hx
        refine ⟨_, w, ?_, post_pure S (VR.ofLit _)⟩
        have := conv_bytes_run (P := P) (w := w) (bs := ((cs.drop off).take len).filterMap toB) (cap := c') hs hu hd (fun _ => h1) (fun i b hi => by
          obtain ⟨u, e1, e2⟩ := h2 i (u8 b) (by
            simp only [Row.cs]
            rw [hby, List.getElem?_map, hi]
            rfl)
          rw [e1, VR_lit e2])
        rw [hlen] at this
        exact this
      · cases he
  · rename_i e hs hd
    cases hb : isU8 P e with
    | false => simp [hb] at he
    | true =>
      simp only [hb, cond_true, Option.some.injEq, Prod.mk.injEq] at he
      obtain ⟨rfl, rfl⟩ := he
      have hu := isU8_spec hb
      have hx := VR_lit ha
      subst hx
      exact ⟨_, w, run_convert_bytes_nil w src e hs hu 0 0 dst hd, post_pure S (VR.ofLit _)⟩
  · rename_i e s hs hd
    cases hb : isU8 P e with
    | false => simp [hb] at he
    | true =>
      simp only [hb, cond_true, Option.some.injEq, Prod.mk.injEq] at he
      obtain ⟨rfl, rfl⟩ := he
      have hsz : s.size ≤ 140737488355328 := hC.1
      have hu := isU8_spec hb
      have hx := VR_lit ha
      subst hx
      have hold : ∀ b, b < w.heap.size → (Lib.bytesWorld w e s).heap[b]? = w.heap[b]? := fun b hb => Lib.bytesWorld_at_old w e s b hb
      have hm : s.size ≤ maxLen := by simp only [maxLen]; omega
      have F : Fr ρ h O w ρ h (fun b => O b ∨ b = w.heap.size) (Lib.bytesWorld w e s) :=
        { os := rfl, tape := rfl, output := rfl
          size := by rw [Lib.bytesWorld_size]; omega
          keep := fun b hb _ => hold b hb
          dom := fun j rj hj => ⟨rj, hj, fun hlj => ⟨hlj, rfl, rfl, rfl, Nat.le_refl _, by simp only [blockSize, hold _ (S.block_lt hj hlj)]⟩⟩
          own := fun j rj hj hlj => .inl ⟨j, rj, hj, hlj, rfl⟩
          old := fun _ h => .inl h
          oldnew := fun b hb => hb.elim .inl fun e => .inr (.inr (by omega)) }
      refine ⟨_, _, Lib.run_convert_string_bytes w src dst e s hs hd hu, ρ, fun b => O b ∨ b = w.heap.size, ?_, S.step F (fun j rj hj hlj => .inl ⟨hj, rfl, hold _ (S.block_lt hj hlj)⟩) S.inj
        (fun j rj hj hlj hO => ?_) (fun b hb => ?_), F⟩
      · have hlen : s.data.toList.length = s.size := Array.length_toList
        have hcm : grownCap w s.size 0 e ≤ 9223372036854775807 := by have := grownCap_le_maxLen w s.size 0 e hm; simp only [maxLen] at this; omega
        have hge : s.data.toList.length ≤ grownCap w s.size 0 e := by rw [hlen]; exact grownCap_ge w s.size 0 e
        have hv : VR ρ h (fun b => O b ∨ b = w.heap.size) (Lib.bytesWorld w e s) (.bts s.data.toList) (.slice (some ⟨w.heap.size, 0, none⟩) s.data.toList.length (grownCap w s.size 0 e)) :=
          .dr (.bts (fun _ => rfl) (fun _ => .inr rfl) hge hcm fun i b hi => by
            have hlt := (List.getElem?_eq_some_iff.1 hi).1
            rw [add_none, Nat.zero_add, Lib.bytesWorld_cell w e s i (by omega), List.getD_eq_getElem?_getD, hi]
            rfl)
        rw [hlen] at hv
        exact hv
      · rcases hO with hO | hO
        · exact S.notO j rj hj hlj hO
        · have := S.block_lt hj hlj; omega
      · rw [Lib.bytesWorld_size]
        rcases hb with hb | hb
        · have := S.lt b hb; omega
        · omega
  · cases he

theorem len_sound {t ty : TypeId} {a : AV} {x : Value} {v : AV} {c : List Prop} (S : Sim G ρ h O w) (hsub : ∀ id r, hr id = some r → h id = some r)
    (ha : VR ρ h O w a x) (he : lenE P t a hr = some (v, c)) : ∃ y, (Builtin.len_ #[t] ty #[x]).run P w = .ok y w ∧ VR ρ h O w v y := by
  unfold lenE at he
  split at he
  · rename_i e bs hu
    simp only [Option.some.injEq, Prod.mk.injEq] at he
    obtain ⟨rfl, rfl⟩ := he
    rcases VR_bts ha with ⟨rfl, rfl⟩ | ⟨a', cap, rfl, _⟩
    · exact ⟨_, by simp [Builtin.len_, run_underlying hu, goInt], VR.ofLit _⟩
    · exact ⟨_, by simp [Builtin.len_, run_underlying hu, goInt], VR.ofLit _⟩
  · rename_i e sz n get hu
    simp only [Option.some.injEq, Prod.mk.injEq] at he
    obtain ⟨rfl, rfl⟩ := he
    rcases VR_ro ha with ⟨rfl, rfl⟩ | ⟨a', cap, val, rfl, _⟩
    · exact ⟨_, by simp [Builtin.len_, run_underlying hu, goInt], VR.ofLit _⟩
    · exact ⟨_, by simp [Builtin.len_, run_underlying hu, goInt], VR.ofLit _⟩
  · rename_i e id off len cap hu
    cases hl : liveAt hr id with
    | false => simp [hl] at he
    | true =>
      simp only [hl, cond_true, Option.some.injEq, Prod.mk.injEq] at he
      obtain ⟨rfl, rfl⟩ := he
      obtain ⟨r, h1, h2, h3⟩ := liveAt_spec hl
      obtain ⟨a', c', m, rfl, _⟩ := VR_own ha (hsub _ _ h1) h2
      exact ⟨_, by simp [Builtin.len_, run_underlying hu, goInt], VR.ofLit _⟩
  · rename_i k e id hu
    split at he
    · rename_i kd es hh
      simp only [Option.some.injEq, Prod.mk.injEq] at he
      obtain ⟨rfl, rfl⟩ := he
      have hid := hsub _ _ hh
      obtain ⟨ents, clock, e1, e2, e2', e3⟩ := S.rows _ _ hid
      cases ha with
      | dr hd => cases hd
      | mp h1 h2 => exact ⟨_, by simp [Builtin.len_, run_underlying hu, goInt, getObj, Sem.run, e1, e2], VR.ofLit _⟩
      | mpGone h1 h2 => rw [hid] at h1; cases h1; cases h2
    · cases he
  · cases he

theorem cap_sound {t ty : TypeId} {a : AV} {x : Value} {v : AV} (S : Sim G ρ h O w) (hsub : ∀ id r, hr id = some r → h id = some r)
    (ha : VR ρ h O w a x) (he : capE P t a hr = some v) : ∃ y, (Builtin.cap_ #[t] ty #[x]).run P w = .ok y w ∧ VR ρ h O w v y := by
  unfold capE at he
  split at he
  · rename_i e id off len c hu
    cases hl : liveAt hr id with
    | false => simp [hl] at he
    | true =>
      simp only [hl, cond_true, Option.some.injEq] at he
      subst he
      obtain ⟨r, h1, h2, h3⟩ := liveAt_spec hl
      obtain ⟨a', c', m, rfl, k1, k2, k3, k4, k5, k6, k7, k8, k9⟩ := VR_own ha (hsub _ _ h1) h2
      have := k9 c rfl
      subst this
      exact ⟨_, by simp [Builtin.cap_, run_underlying hu, goInt], VR.ofLit _⟩
  · cases he

theorem intOf?_spec {a : AV} {x : Value} {n : Int} (ha : VR ρ h O w a x) (he : intOf? a = some n) : ∃ k, x = .int k n := by
  unfold intOf? at he
  split at he
  · cases he
    exact ⟨_, VR_lit ha⟩
  · cases he

/-- The bounds, as Go looks at them. -/
theorem bounds_sound {f : Operand → AV} {g : Operand → Value} {loX hiX : Option Operand} {isS : Bool} {len cap : Nat} {l u : Int}
    (hlo : ∀ x ∈ loX, VR ρ h O w (f x) (g x)) (hhi : ∀ x ∈ hiX, VR ρ h O w (f x) (g x))
    (he : boundsE (loX.map f) (hiX.map f) len = some (l, u)) (h0 : 0 ≤ l) (h1 : l ≤ u) (h2 : u ≤ cap) (h3 : hiX = none → (len : Int) ≤ cap) :
    (Instr.sliceBounds isS len cap (loX.map g) (hiX.map g) none).run P w = .ok (l.toNat, u.toNat, cap) w := by
  cases loX with
  | none =>
    cases hiX with
    | none =>
      simp only [Option.map_none, boundsE, Option.some.injEq, Prod.mk.injEq] at he
      obtain ⟨rfl, rfl⟩ := he
      simp [Instr.sliceBounds]
    | some y =>
      simp only [Option.map_none, Option.map_some, boundsE, Option.map_eq_some_iff, Prod.mk.injEq] at he
      obtain ⟨n, hn, rfl, rfl⟩ := he
      obtain ⟨k, hk⟩ := intOf?_spec (hhi y rfl) hn
      simp [Instr.sliceBounds, Instr.sliceBound, hk, asIntOf, h1, h2]
  | some z =>
    cases hiX with
    | none =>
      simp only [Option.map_none, Option.map_some, boundsE, Option.map_eq_some_iff, Prod.mk.injEq] at he
      obtain ⟨n, hn, rfl, rfl⟩ := he
      obtain ⟨k, hk⟩ := intOf?_spec (hlo z rfl) hn
      have : n ≤ (len : Int) := h1
      simp [Instr.sliceBounds, Instr.sliceBound, hk, asIntOf, h0, this]
    | some y =>
      simp only [Option.map_some, boundsE] at he
      split at he
      · rename_i n m hn hm
        simp only [Option.some.injEq, Prod.mk.injEq] at he
        obtain ⟨rfl, rfl⟩ := he
        obtain ⟨k, hk⟩ := intOf?_spec (hlo z rfl) hn
        obtain ⟨k', hk'⟩ := intOf?_spec (hhi y rfl) hm
        have hu0 : 0 ≤ m := by omega
        have hle : n ≤ max m 0 := by omega
        simp [Instr.sliceBounds, Instr.sliceBound, hk, hk', asIntOf, h0, h2, hu0, hle]
      · cases he

theorem slice_sound {t : TypeId} {a : AV} {x : Value} {v : AV} {c : List Prop} {f : Operand → AV} {g : Operand → Value} {loX hiX mxX : Option Operand} (S : Sim G ρ h O w)
    (hsub : ∀ id r, hr id = some r → h id = some r) (ha : VR ρ h O w a x) (hlo : ∀ x ∈ loX, VR ρ h O w (f x) (g x)) (hhi : ∀ x ∈ hiX, VR ρ h O w (f x) (g x))
    (he : sliceE P t a (loX.map f) (hiX.map f) (mxX.map f) hr = some (v, c)) (hC : AllP c) :
    ∃ y, (Instr.sliceAt t x (loX.map g) (hiX.map g) (mxX.map g)).run P w = .ok y w ∧ VR ρ h O w v y := by
  unfold sliceE at he
  cases mxX with
  | some z => simp at he
  | none =>
  simp only [Option.map_none] at he ⊢
  split at he
  · rename_i s hu
    have hx := VR_lit ha
    subst hx
    simp only [Option.map_eq_some_iff, Prod.mk.injEq] at he
    obtain ⟨⟨l, u⟩, hb, rfl, rfl⟩ := he
    obtain ⟨h0, h1, h2⟩ := hC.1
    have := bounds_sound (P := P) (isS := false) (cap := s.size) hlo hhi hb h0 h1 h2 (fun _ => by omega)
    exact ⟨_, by simp [Instr.sliceAt, Instr.slice, run_underlying hu, this], VR.ofLit _⟩
  · rename_i e bs hu
    cases hb8 : isU8 P e with
    | false => simp [hb8] at he
    | true =>
    simp only [hb8, cond_true, Option.map_eq_some_iff, Prod.mk.injEq] at he
    obtain ⟨⟨l, u⟩, hb, rfl, rfl⟩ := he
    obtain ⟨h0, h1, h2⟩ := hC.1
    simp only at h0 h1 h2
    have hsz := run_szOf (w := w) (isU8_size hb8)
    have hlen : ((bs.take u.toNat).drop l.toNat).length = u.toNat - l.toNat := by simp; omega
    rcases VR_bts ha with ⟨rfl, rfl⟩ | ⟨a', cap, rfl, k1, k2, k3, k4, k5⟩
    · have hbd := bounds_sound (P := P) (isS := true) (cap := 0) hlo hhi hb h0 h1 (by simpa using h2) (fun _ => by simp)
      simp at h2
      have e1 : l.toNat = 0 := by omega
      have e2 : u.toNat = 0 := by omega
      refine ⟨.slice none 0 0, ?_, by simpa using VR.dr DR.btsnil⟩
      simp at hbd
      simp [Instr.sliceAt, Instr.slice, run_underlying hu, hbd, hsz, e1, e2]
    · have hbd := bounds_sound (P := P) (isS := true) (cap := cap) hlo hhi hb h0 h1 (by omega) (fun _ => by omega)
      refine ⟨.slice (if cap = l.toNat then some a' else some (a'.add l.toNat)) (u.toNat - l.toNat) (cap - l.toNat), ?_, ?_⟩
      · simp [Instr.sliceAt, Instr.slice, run_underlying hu, hbd, hsz]
      · have key : ∀ a2 : Addr, (0 < u.toNat - l.toNat → a2.spot = none) → a2.block = a'.block → (cap ≠ l.toNat → a2 = a'.add l.toNat) → VR ρ h O w (.bts ((bs.take u.toNat).drop l.toNat)) (.slice (some a2) (u.toNat - l.toNat) (cap - l.toNat)) := by
          intro a2 j1 j2 j3
          rw [← hlen]
          refine .dr (.bts (by rw [hlen]; exact j1) (fun hp => by rw [j2]; exact k2 (by rw [hlen] at hp; omega)) (by rw [hlen]; omega) (by omega) fun i b hi => ?_)
          have hlt := (List.getElem?_eq_some_iff.1 hi).1
          rw [hlen] at hlt
          rw [List.getElem?_drop, List.getElem?_take, if_pos (by omega)] at hi
          rw [j3 (by omega), ← k5 _ _ hi]
          have k1 := k1 (by omega)
          obtain ⟨b', o', s'⟩ := a'
          simp at k1
          subst k1
          simp only [add_none, Nat.add_assoc]
        by_cases hc : cap = l.toNat
        · rw [if_pos hc]; exact key a' (fun hp => k1 (by omega)) rfl (fun hn => absurd hc hn)
        · rw [if_neg hc]
          exact key _ (fun hp => by have k1 := k1 (by omega); unfold Addr.add; split <;> first | exact k1 | rfl) (by unfold Addr.add; split <;> rfl) (fun _ => rfl)
  · rename_i e sz n get hu
    split at he
    · rename_i sz' hsz'
      cases hbe : Nat.beq sz sz' with
      | false => simp [hbe] at he
      | true =>
      have hse : sz = sz' := Nat.eq_of_beq_eq_true hbe
      subst hse
      simp only [hbe, cond_true, Option.map_eq_some_iff, Prod.mk.injEq] at he
      obtain ⟨⟨l, u⟩, hb, rfl, rfl⟩ := he
      obtain ⟨h0, h1, h2⟩ := hC.1
      simp only at h0 h1 h2
      have hsz := run_szOf (w := w) hsz'
      rcases VR_ro ha with ⟨rfl, rfl⟩ | ⟨a', cap, val, rfl, k1, k2, k3, k4, k5, k6, k7⟩
      · have hbd := bounds_sound (P := P) (isS := true) (cap := 0) hlo hhi hb h0 h1 (by simpa using h2) (fun _ => by simp)
        simp at h2
        have e1 : l.toNat = 0 := by omega
        have e2 : u.toNat = 0 := by omega
        refine ⟨.slice none 0 0, ?_, by simpa [e1, e2] using VR.dr DR.ronil⟩
        simp [Instr.sliceAt, Instr.slice, run_underlying hu, hbd, hsz, e1, e2]
      · have hbd := bounds_sound (P := P) (isS := true) (cap := cap) hlo hhi hb h0 h1 (by omega) (fun _ => by omega)
        refine ⟨.slice (if cap = l.toNat then some a' else some (a'.add (l.toNat * sz))) (u.toNat - l.toNat) (cap - l.toNat), ?_, ?_⟩
        · simp [Instr.sliceAt, Instr.slice, run_underlying hu, hbd, hsz]
        · have key : ∀ a2 : Addr, (0 < u.toNat - l.toNat → a2.spot = none) → a2.block = a'.block → (cap ≠ l.toNat → a2 = a'.add (l.toNat * sz)) →
              VR ρ h O w (.ro sz (u.toNat - l.toNat) (fun i => get (l.toNat + i))) (.slice (some a2) (u.toNat - l.toNat) (cap - l.toNat)) := by
            intro a2 j1 j2 j3
            refine .dr (.ro (fun i j => val (l.toNat + i) j) j1 (fun hp => by rw [j2]; exact k2 (by omega)) (by omega) (by omega) (fun i hi => k5 _ (by omega)) (fun i j c hi hj => ?_) (fun i j c hi hj => k7 _ _ _ (by omega) hj))
            rw [j3 (by omega), ← k6 _ _ _ (by omega) hj]
            have k1 := k1 (by omega)
            obtain ⟨b', o', s'⟩ := a'
            simp at k1
            subst k1
            simp only [add_none, Nat.add_assoc]
            congr 2
            rw [Nat.add_mul, Nat.add_assoc]
          by_cases hc : cap = l.toNat
          · rw [if_pos hc]; exact key a' (fun hp => k1 (by omega)) rfl (fun hn => absurd hc hn)
          · rw [if_neg hc]
            exact key _ (fun hp => by have k1 := k1 (by omega); unfold Addr.add; split <;> first | exact k1 | rfl) (by unfold Addr.add; split <;> rfl) (fun _ => rfl)
    · cases he
  · rename_i e id off len cap hu
    split at he
    · rename_i r sz hh hsz'
      cases hbe : (liveAt hr id && Nat.beq r.sz sz) with
      | false => simp [hbe] at he
      | true =>
      simp only [hbe, cond_true, Option.map_eq_some_iff, Prod.mk.injEq] at he
      obtain ⟨⟨l, u⟩, hb, rfl, rfl⟩ := he
      simp only [Bool.and_eq_true] at hbe
      have hse : r.sz = sz := Nat.eq_of_beq_eq_true hbe.2
      subst hse
      obtain ⟨r', e1, e2, e3⟩ := liveAt_spec hbe.1
      rw [hh] at e1
      cases e1
      have hid := hsub _ _ hh
      obtain ⟨h0, h1, h2⟩ := hC.1
      simp only at h0 h1 h2
      have hsz := run_szOf (w := w) hsz'
      obtain ⟨a', c', m, rfl, k1, k2, k3, k4, k5, k6, k7, k8, k9⟩ := VR_own ha hid e2
      have huc : u ≤ c' := by
        rcases h2 with h2 | ⟨c2, g1, g2, _⟩
        · omega
        · rw [k9 c2 g1]; exact g2
      have hbd := bounds_sound (P := P) (isS := true) (cap := c') hlo hhi hb h0 h1 huc (fun _ => by omega)
      have hfit : off + l.toNat * r.sz + (u.toNat - l.toNat) * r.sz ≤ r.len := by
        have hmul : l.toNat * r.sz + (u.toNat - l.toNat) * r.sz = u.toNat * r.sz := by rw [← Nat.add_mul]; congr 1; omega
        rcases h2 with h2 | ⟨c2, g1, g2, g3⟩
        · have : u.toNat * r.sz ≤ len * r.sz := Nat.mul_le_mul_right _ (by omega)
          omega
        · omega
      refine ⟨.slice (if c' = l.toNat then some a' else some (a'.add (l.toNat * r.sz))) (u.toNat - l.toNat) (c' - l.toNat), ?_, ?_⟩
      · simp [Instr.sliceAt, Instr.slice, run_underlying hu, hbd, hsz]
      · have hoff : c' ≠ l.toNat → (0 < u.toNat - l.toNat ∨ ∃ c2, cap.map (· - l.toNat) = some c2 ∧ 0 < c2) → a'.off = (ρ id).2 + off := by
          intro hne hor
          apply k4
          rcases hor with hor | ⟨c2, g1, g2⟩
          · rcases h2 with h2 | ⟨c3, g3, g4, _⟩
            · exact .inl (by omega)
            · exact .inr ⟨c3, g3, by omega⟩
          · cases cap with
            | none => simp at g1
            | some c3 => exact .inr ⟨c3, rfl, by simp at g1; omega⟩
        have key : ∀ a2 : Addr, a2.spot = none → a2.block = a'.block → (c' = l.toNat ∧ a2 = a' ∨ c' ≠ l.toNat ∧ a2 = a'.add (l.toNat * r.sz)) →
            VR ρ h O w (.own id (off + l.toNat * r.sz) (u.toNat - l.toNat) (cap.map (· - l.toNat))) (.slice (some a2) (u.toNat - l.toNat) (c' - l.toNat)) := by
          intro a2 j1 j2 j3
          have hao : c' ≠ l.toNat → (a'.add (l.toNat * r.sz)).off = a'.off + l.toNat * r.sz := fun _ => by
            unfold Addr.add; split <;> simp_all
          refine .own (m := m) hid e2 e3 hfit j1 (by rw [j2]; exact k3) (fun hor => ?_) (by omega) (by omega) k7 ?_ (fun c2 hc2 => ?_)
          · rcases j3 with ⟨g1, g2⟩ | ⟨g1, g2⟩
            · exfalso
              rcases hor with hor | ⟨c2, g3, g4⟩
              · omega
              · cases cap with
                | none => simp at g3
                | some c3 => have := k9 c3 rfl; simp at g3; omega
            · rw [g2, hao g1, hoff g1 hor]; omega
          · have hmul : l.toNat * r.sz + (c' - l.toNat) * r.sz = c' * r.sz := by rw [← Nat.add_mul]; congr 1; omega
            rcases j3 with ⟨g1, g2⟩ | ⟨g1, g2⟩
            · rw [g2]; omega
            · rw [g2, hao g1]; omega
          · cases cap with
            | none => simp at hc2
            | some c3 => have := k9 c3 rfl; simp at hc2; omega
        by_cases hc : c' = l.toNat
        · rw [if_pos hc]; exact key a' k2 rfl (.inl ⟨hc, rfl⟩)
        · rw [if_neg hc]
          refine key _ ?_ ?_ (.inr ⟨hc, rfl⟩)
          · obtain ⟨b', o', s'⟩ := a'
            simp at k2
            subst k2
            rw [add_none]
          · unfold Addr.add; split <;> rfl
    · cases he
  · rename_i e hu
    have hx := VR_lit ha
    subst hx
    split at he
    · rename_i sz hsz'
      have hsz := run_szOf (w := w) hsz'
      simp only [Option.map_eq_some_iff, Prod.mk.injEq] at he
      obtain ⟨⟨l, u⟩, hb, rfl, rfl⟩ := he
      obtain ⟨h0, h1, h2⟩ := hC.1
      simp only at h0 h1 h2
      have hbd := bounds_sound (P := P) (isS := true) (cap := 0) hlo hhi hb h0 h1 (by simpa using h2) (fun _ => by simp)
      have e1 : l.toNat = 0 := by omega
      have e2 : u.toNat = 0 := by omega
      refine ⟨.slice none 0 0, ?_, VR.ofLit _⟩
      simp [Instr.sliceAt, Instr.slice, run_underlying hu, hbd, hsz, e1, e2]
    · cases he
  · cases he
end
end Go.Ax
