/-
  Values of AMQP, written in chosen forms: what is written of a value is a form of it.
-/
import Derived.Test.YtbdfpnhcincimaaDoorVaI
set_option linter.unusedVariables false
set_option linter.unusedSimpArgs false
set_option maxRecDepth 100000
set_option maxHeartbeats 1000000
namespace Go.Ax
open Go.Proofs

theorem NumF_len {k u c : Int} {x : List UInt8} (h : NumF k u c x) : x.length ≤ 8 := by
  rcases h with ⟨_, rfl⟩ | ⟨_, _, _, rfl⟩ | ⟨_, _, _, rfl⟩ | ⟨_, _, _, rfl⟩ | ⟨_, _, _, rfl⟩ | ⟨_, _, _, rfl⟩ | ⟨_, _, _, rfl⟩
  · exact beL_le _ _
  all_goals simp

theorem NumF_code {k u c : Int} {x : List UInt8} (hk : NumK k) (h : NumF k u c x) : 0 < c ∧ c < 256 := by
  have := codeOf_pos (k := k) (by have := hk.1; omega) (by have := hk.2.1; omega)
  rcases h with ⟨rfl, _⟩ | ⟨_, _, rfl, _⟩ | ⟨_, _, rfl, _⟩ | ⟨_, _, rfl, _⟩ | ⟨_, _, rfl, _⟩ | ⟨_, _, rfl, _⟩ | ⟨_, _, rfl, _⟩ <;> omega

theorem CntF_code {s l : Int} {n : Nat} {d : List UInt8} {c : Int} {x : List UInt8} (h : CntF s l n d c x) : c = s ∨ c = l := by
  rcases h with ⟨h, _⟩ | ⟨h, _⟩
  · exact .inl h
  · exact .inr h

theorem len_text (t : ByteArray) : t.data.toList.length = t.size := Array.length_toList

/-- What is asked of a value by itself. -/
def OwnFit (k u : Int) (t : ByteArray) (n : Nat) (f : Nat → ValT) (o : Int) (d : Nat) : Prop :=
  0 ≤ k ∧ k < 24 ∧ 0 ≤ u ∧ d ≤ 1 ∧ n ≤ 1000 ∧ t.size ≤ 131072 ∧ (k = 1 → u ≤ 1) ∧ (k = 23 → n = 0 → 0 ≤ o ∧ o < 24) ∧ (k = 23 → ∀ i, i < n → (f i).kind = (f 0).kind ∧ (f i).nd = (f 0).nd)

def ValT.fits : ValT → Prop
  | .nul => True
  | .mk k u t n f o d g => OwnFit k u t n f o d ∧ (∀ i, i < n → (f i).fits) ∧ ∀ i, i < d → (g i).fits

theorem fits_kind : ∀ {p : ValT}, p.fits → 0 ≤ p.kind ∧ p.kind < 24
  | .nul, _ => by show (0 : Int) ≤ 0 ∧ (0 : Int) < 24; decide
  | .mk k u t n f o d g, h => ⟨h.1.1, h.1.2.1⟩

/-! ### Arrays -/
theorem arrayC (k u : Int) (t : ByteArray) (n : Nat) (f : Nat → ValT) (o : Int) (d : Nat) (g : Nat → ValT) (sh : Bool) (hn : n ≤ 1000) (ho : n = 0 → 0 ≤ o ∧ o < 24)
    (hk : ∀ i, i < n → (f i).kind = (f 0).kind ∧ (f i).nd = (f 0).nd) (hf : ∀ i, i < n → (f i).fits) (ih : ∀ i, i < n → FormsOK sh (f i)) (ihd : 0 < n → 0 < (f 0).nd → PutOK sh ((f 0).dscf 0))
    (hB : sumN (fun i => (f i).bd) 0 n ≤ 900000000) (st : Int) :
    ∃ (ps : List (Int × List UInt8)) (st' : Int), ps.length ≤ 2 ∧ (∀ q ∈ ps, (∃ b, b.length ≤ 1000000000 ∧ ArrF n f o b ∧ CntF 224 240 n b q.1 q.2) ∧ q.2.length ≤ sumN (fun i => (f i).bd) 0 n + 9) ∧ (∃ q ∈ ps, q.1 = 240) ∧
      ACalls Tryd.prog noG 88 [.ptr 0 0, .agg (vmk k u t n f o d g)] [FR st sh] (pL ps) [FR st' sh] := by
  have hkd : 0 ≤ arrOf n f o ∧ arrOf n f o < 24 := by
    unfold arrOf
    split
    · next h => exact fits_kind (hf 0 h)
    · exact ho (by omega)
  have hpb : sumN (fun i => (f i).pb) 0 n ≤ sumN (fun i => (f i).bd) 0 n := sumN_mono n 0 fun j _ _ => by have := pb_le (f j); omega
  obtain ⟨l, st1, hl0, hl2, hl, hc⟩ := elementsC n f sh (arrOf n f o) hkd.1 hkd.2 (by omega) (fun i => (f i).pb) (fun i c x => (f i).kind ≤ 20 → LeafF (f i).kind (f i).num (f i).text c x)
    (fun i hi st => by
      obtain ⟨ps, st', g1, g2, ⟨q, g3, g4⟩, g5⟩ := ih i hi st 0 (fun _ => .nul)
      refine ⟨ps, st', g1, fun q hq => ⟨(g2 q hq).1.2.2.1, by have := (g2 q hq).2; omega⟩, ⟨q, g3, ?_⟩, g5.le ⟨Le.refl _, nodesc_le _ _, trivial⟩ (Le.refl _) rfl⟩
      rw [g4]
      unfold arrOf
      rw [if_pos (by omega), (hk i hi).1]) st (by omega)
  have hlen : 1 ≤ l.length := List.length_pos_iff.2 hl0
  obtain ⟨q, st2, ⟨hq0, hq1⟩, hpick⟩ := pickC l.length st1 sh (by omega) (by omega)
  have hqn : q.toNat < l.length := by omega
  have hmem : l.getD q.toNat (0, []) ∈ l := by rw [List.getD_eq_getElem?_getD, List.getElem?_eq_getElem hqn]; simp
  have hE := hl _ hmem
  have hX : (l.getD q.toNat (0, [])).2.length ≤ sumN (fun i => (f i).pb) 0 n := hE.2.2.1
  have hc' : ACalls Tryd.prog noG 111 [.ptr 0 0, .lit (.int .i64 (arrOf n f o)), .ro 6 n (fun i => vparts (f i))] [FR st sh] (pL l) [FR st1 sh] := hc.le ⟨Le.refl _, Le.refl _, kids_parts n f, trivial⟩ (Le.refl _) rfl
  by_cases h0 : n = 0
  · have ha : arrOf n f o = o := by unfold arrOf; rw [if_neg (by omega)]
    rw [ha] at hc'
    obtain ⟨ps, r0, r1, r2, r3, _⟩ := lengthedO 224 240 n (byteI (l.getD q.toNat (0, [])).1 :: (l.getD q.toNat (0, [])).2) (by simp only [List.length_cons]; omega) (by omega)
    refine ⟨ps, st2, r0, fun p hp => ⟨⟨_, ?_, ?_, (r1 p hp).1⟩, ?_⟩, r2, ?_⟩
    · simp only [List.length_cons]; omega
    · exact .inr ⟨by omega, _, _, rfl, hE⟩
    · have := (r1 p hp).2
      simp only [List.length_cons] at this
      omega
    · refine ((ary0 k u t n f o d g st sh st1 st2 q _ l.length (fun i => (l.getD i (0, [])).1) (fun i => (l.getD i (0, [])).2) ps.length _ ⟨r3, ?_, RowLe.refl _, by omega, by intro h; omega, by omega, by omega, hpick, hc', h0, trivial⟩).le ⟨Le.refl _, vmk_vm2 k u t n f o d g, trivial⟩ (Le.refl _) rfl)
      rw [show (byteI (l.getD q.toNat (0, [])).1 :: (l.getD q.toNat (0, [])).2).length = 1 + (l.getD q.toNat (0, [])).2.length by simp [Nat.add_comm]]
      exact Le.refl _
  · have hpos : 0 < n := by omega
    have ha : arrOf n f o = (f 0).kind := by unfold arrOf; rw [if_pos hpos]
    rw [ha] at hc'
    by_cases hnd : 0 < (f 0).nd
    · obtain ⟨y, st3, ⟨hy, hy0, _⟩, hput⟩ := ihd hpos hnd st2
      have hsum : sumN (fun i => (f i).pb) 0 n + 10 + y.length ≤ sumN (fun i => (f i).bd) 0 n := by
        obtain ⟨m, rfl⟩ : ∃ m, n = m + 1 := ⟨n - 1, by omega⟩
        simp only [sumN]
        have h1 := pb_le (f 0)
        have h2 : ((f 0).dscf 0).bd ≤ sumN (fun i => ((f 0).dscf i).bd) 0 (f 0).nd := sumN_ge (g := fun i => ((f 0).dscf i).bd) _ _ _ (Nat.le_refl _) (by omega)
        have h3 : sumN (fun i => (f i).pb) (0 + 1) m ≤ sumN (fun i => (f i).bd) (0 + 1) m := sumN_mono m _ fun j _ _ => by have := pb_le (f j); omega
        omega
      obtain ⟨ps, r0, r1, r2, r3, _⟩ := lengthedO 224 240 n ((0 : UInt8) :: (y ++ byteI (l.getD q.toNat (0, [])).1 :: (l.getD q.toNat (0, [])).2)) (by simp only [List.length_cons, List.length_append]; omega) (by omega)
      refine ⟨ps, st3, r0, fun p hp => ⟨⟨_, ?_, ?_, (r1 p hp).1⟩, ?_⟩, r2, ?_⟩
      · simp only [List.length_cons, List.length_append]; omega
      · exact .inl ⟨hpos, hnd, _, rfl⟩
      · have := (r1 p hp).2
        simp only [List.length_cons, List.length_append] at this
        omega
      · refine ((ary2 k u t n f o d g st sh st1 st2 q st3 y _ l.length (fun i => (l.getD i (0, [])).1) (fun i => (l.getD i (0, [])).2) ps.length _ ⟨r3, ?_, RowLe.refl _, by omega, by omega, hput, hnd, hpos, ⟨hpos, hnd⟩, fun h => ⟨h, h, trivial⟩, by omega, by omega, hpick, hc', trivial⟩).le ⟨Le.refl _, vmk_vm2 k u t n f o d g, trivial⟩ (Le.refl _) rfl)
        rw [show ((0 : UInt8) :: (y ++ byteI (l.getD q.toNat (0, [])).1 :: (l.getD q.toNat (0, [])).2)).length = 1 + y.length + ((l.getD q.toNat (0, [])).2.length + 1) by simp only [List.length_cons, List.length_append]; omega]
        exact Le.refl _
    · have hsum : sumN (fun i => (f i).pb) 0 n + 10 ≤ sumN (fun i => (f i).bd) 0 n := by
        obtain ⟨m, rfl⟩ : ∃ m, n = m + 1 := ⟨n - 1, by omega⟩
        simp only [sumN]
        have h1 := pb_le (f 0)
        have h3 : sumN (fun i => (f i).pb) (0 + 1) m ≤ sumN (fun i => (f i).bd) (0 + 1) m := sumN_mono m _ fun j _ _ => by have := pb_le (f j); omega
        omega
      obtain ⟨ps, r0, r1, r2, r3, _⟩ := lengthedO 224 240 n (byteI (l.getD q.toNat (0, [])).1 :: (l.getD q.toNat (0, [])).2) (by simp only [List.length_cons]; omega) (by omega)
      refine ⟨ps, st2, r0, fun p hp => ⟨⟨_, ?_, ?_, (r1 p hp).1⟩, ?_⟩, r2, ?_⟩
      · simp only [List.length_cons]; omega
      · exact .inr ⟨by omega, _, _, rfl, hE⟩
      · have := (r1 p hp).2
        simp only [List.length_cons] at this
        omega
      · refine ((ary1 k u t n f o d g st sh st1 st2 q _ l.length (fun i => (l.getD i (0, [])).1) (fun i => (l.getD i (0, [])).2) ps.length _ ⟨r3, ?_, RowLe.refl _, fun _ => by omega, fun h => ⟨h, h, trivial⟩, by omega, by omega, hpick, hc', hpos, trivial⟩).le ⟨Le.refl _, vmk_vm2 k u t n f o d g, trivial⟩ (Le.refl _) rfl)
        rw [show (byteI (l.getD q.toNat (0, [])).1 :: (l.getD q.toNat (0, [])).2).length = 1 + (l.getD q.toNat (0, [])).2.length by simp [Nat.add_comm]]
        exact Le.refl _

/-! ### The forms of a value -/
theorem formsC (k u : Int) (t : ByteArray) (n : Nat) (f : Nat → ValT) (o : Int) (sh : Bool) (hw : OwnFit k u t n f o 0) (hf : ∀ i, i < n → (f i).fits) (ihp : ∀ i, i < n → PutOK sh (f i)) (ih : ∀ i, i < n → FormsOK sh (f i))
    (ihd : 0 < n → 0 < (f 0).nd → PutOK sh ((f 0).dscf 0)) (hB : t.size + sumN (fun i => (f i).bd) 0 n ≤ 900000000) (d : Nat) (g : Nat → ValT) (st : Int) :
    ∃ (ps : List (Int × List UInt8)) (st' : Int), ps.length ≤ 1000 ∧ (∀ q ∈ ps, PieceF k u t n f o q.1 q.2 ∧ q.2.length + 1 ≤ 20 + t.size + sumN (fun i => (f i).bd) 0 n) ∧ (∃ q ∈ ps, q.1 = codeOf k) ∧
      ACalls Tryd.prog noG 56 [.ptr 0 0, .agg (vmk k u t n f o d g)] [FR st sh] (pL ps) [FR st' sh] := by
  obtain ⟨w0, w1, w2, w3, w4, w5, w6, w7, w8⟩ := hw
  have lt := len_text t
  by_cases hnum : NumK k
  · obtain ⟨l, r0, r1, r2, r3⟩ := numberedC hnum u w2 t n f o d g
    obtain ⟨a, b, c⟩ := hnum
    refine ⟨l, st, by omega, fun q hq => ⟨⟨(NumF_code ⟨a, b, c⟩ (r1 q hq)).1, (NumF_code ⟨a, b, c⟩ (r1 q hq)).2, fun _ => .inr (.inr (.inl ⟨⟨a, b, c⟩, r1 q hq⟩)), by omega, by omega, by omega⟩, by have := NumF_len (r1 q hq); omega⟩, ⟨_, r2, rfl⟩, ?_⟩
    exact pcn k u t n f o d g st sh l.length _ ⟨r3, by omega, by omega, by omega, by omega, by omega, by omega, by omega, by omega, by omega, by omega, trivial⟩
  have lenT : ∀ s l : Int, 0 < s → s < 256 → 0 < l → l < 256 → ∃ q : List (Int × List UInt8), q.length ≤ 2 ∧ (∀ p ∈ q, (LenF s l t.data.toList p.1 p.2 ∧ 0 < p.1 ∧ p.1 < 256) ∧ p.2.length + 1 ≤ 20 + t.size) ∧ (∃ p ∈ q, p.1 = l) ∧
      ACalls Tryd.prog noG 87 [.lit (.int .i64 s), .lit (.int .i64 l), .bts t.data.toList, .lit (.int .i64 (-1))] [] (pL q) [] := fun s l s0 s1 l0 l1 => by
    obtain ⟨q, r0, r1, r2, r3⟩ := lengthedA s l t.data.toList (by omega)
    refine ⟨q, r0, fun p hp => ?_, ⟨_, r2, rfl⟩, r3⟩
    rcases r1 p hp with ⟨rfl, a⟩ | rfl
    · exact ⟨⟨.inl ⟨rfl, rfl, a⟩, s0, s1⟩, by simp only [List.length_cons]; omega⟩
    · have l4 := beL_len (t.data.toList.length : Int) (z := 4) (.inr (.inr (.inl rfl)))
      exact ⟨⟨.inr ⟨rfl, rfl⟩, l0, l1⟩, by simp only [List.length_append]; omega⟩
  have hkd : k = 0 ∨ k = 1 ∨ k = 14 ∨ k = 17 ∨ k = 18 ∨ k = 19 ∨ k = 20 ∨ k = 21 ∨ k = 22 ∨ k = 23 := by unfold NumK at hnum; omega
  rcases hkd with rfl | rfl | rfl | rfl | rfl | rfl | rfl | rfl | rfl | rfl
  · refine ⟨[(64, [])], st, by simp, fun q hq => ?_, ⟨_, List.mem_singleton.2 rfl, rfl⟩, fzN (pc0 u t n f o d g st sh trivial)⟩
    simp at hq; subst hq
    exact ⟨⟨by decide, by decide, fun _ => .inl ⟨rfl, rfl, rfl⟩, by omega, by omega, by omega⟩, by simp; omega⟩
  · have hu := w6 rfl
    have e1 : IntKind.i64.wrap u = u := wrap64 (by omega) (by omega)
    have e2 : IntKind.i64.wrap (66 - u) = 66 - u := wrap64 (by omega) (by omega)
    have a := pc1 u t n f o d g st sh trivial
    rw [e1, e2] at a
    refine ⟨[(66 - u, []), (86, [byteI u])], st, by simp, fun q hq => ?_, ⟨(86, [byteI u]), by simp, rfl⟩, fzP (x := [byteI u]) a⟩
    simp at hq
    rcases hq with rfl | rfl
    · exact ⟨⟨by show 0 < 66 - u; omega, by show 66 - u < 256; omega, fun _ => .inr (.inl ⟨rfl, .inl ⟨rfl, rfl⟩⟩), by omega, by omega, by omega⟩, by simp; omega⟩
    · exact ⟨⟨(by decide : (0 : Int) < 86), (by decide : (86 : Int) < 256), fun _ => .inr (.inl ⟨rfl, .inr ⟨rfl, rfl⟩⟩), by omega, by omega, by omega⟩, by simp; omega⟩
  · refine ⟨[(codeOf 14, t.data.toList)], st, by simp, fun q hq => ?_, ⟨_, List.mem_singleton.2 rfl, rfl⟩, fzA (pc14 u t n f o d g st sh _ ⟨by omega, codedC 14, trivial⟩)⟩
    simp at hq; subst hq
    exact ⟨⟨(by decide : (0 : Int) < codeOf 14), (by decide : (codeOf 14 : Int) < 256), fun _ => .inr (.inr (.inr (.inl ⟨.inl rfl, rfl, rfl⟩))), by omega, by omega, by omega⟩, by show t.data.toList.length + 1 ≤ _; omega⟩
  · refine ⟨[(codeOf 17, t.data.toList)], st, by simp, fun q hq => ?_, ⟨_, List.mem_singleton.2 rfl, rfl⟩, fzA (pc17 u t n f o d g st sh _ ⟨by omega, codedC 17, trivial⟩)⟩
    simp at hq; subst hq
    exact ⟨⟨(by decide : (0 : Int) < codeOf 17), (by decide : (codeOf 17 : Int) < 256), fun _ => .inr (.inr (.inr (.inl ⟨.inr rfl, rfl, rfl⟩))), by omega, by omega, by omega⟩, by show t.data.toList.length + 1 ≤ _; omega⟩
  · obtain ⟨q, r0, r1, r2, r3⟩ := lenT 160 176 (by decide) (by decide) (by decide) (by decide)
    exact ⟨q, st, by omega, fun p hp => ⟨⟨(r1 p hp).1.2.1, (r1 p hp).1.2.2, fun _ => .inr (.inr (.inr (.inr (.inl ⟨rfl, (r1 p hp).1.1⟩)))), by omega, by omega, by omega⟩, by have := (r1 p hp).2; omega⟩, r2, pc18 u t n f o d g st sh q.length _ ⟨r3, by omega, trivial⟩⟩
  · obtain ⟨q, r0, r1, r2, r3⟩ := lenT 161 177 (by decide) (by decide) (by decide) (by decide)
    exact ⟨q, st, by omega, fun p hp => ⟨⟨(r1 p hp).1.2.1, (r1 p hp).1.2.2, fun _ => .inr (.inr (.inr (.inr (.inr (.inl ⟨rfl, (r1 p hp).1.1⟩))))), by omega, by omega, by omega⟩, by have := (r1 p hp).2; omega⟩, r2, pc19 u t n f o d g st sh q.length _ ⟨r3, by omega, trivial⟩⟩
  · obtain ⟨q, r0, r1, r2, r3⟩ := lenT 163 179 (by decide) (by decide) (by decide) (by decide)
    exact ⟨q, st, by omega, fun p hp => ⟨⟨(r1 p hp).1.2.1, (r1 p hp).1.2.2, fun _ => .inr (.inr (.inr (.inr (.inr (.inr ⟨rfl, (r1 p hp).1.1⟩))))), by omega, by omega, by omega⟩, by have := (r1 p hp).2; omega⟩, r2, pc20 u t n f o d g st sh q.length _ ⟨r3, by omega, trivial⟩⟩
  · by_cases h0 : n = 0
    · subst h0
      refine ⟨_, st, ?_, fun q hq => ?_, ⟨(208, [0, 0, 0, 4, 0, 0, 0, 0]), by simp, rfl⟩, fzQ (x := [1, 0]) (x2 := [0, 0, 0, 4, 0, 0, 0, 0]) (pcL0 u t f o d g st sh trivial)⟩
      · simp
      · simp at hq
        rcases hq with rfl | rfl | rfl
        · exact ⟨⟨by decide, by decide, by omega, fun _ => .inl rfl, by omega, by omega⟩, by simp; omega⟩
        · exact ⟨⟨by decide, by decide, by omega, fun _ => .inr (.inl rfl), by omega, by omega⟩, by simp; omega⟩
        · exact ⟨⟨by decide, by decide, by omega, fun _ => .inr (.inr rfl), by omega, by omega⟩, by simp; omega⟩
    · obtain ⟨x, st', hx, _, hloop⟩ := kidsC 21 u t n f o d g sh (by omega) (by omega) ihp st (by omega)
      obtain ⟨ps, r0, r1, r2, r3, _⟩ := lengthedO 192 208 n x (by omega) (by omega)
      refine ⟨ps, st', by omega, fun p hp => ?_, r2, pcL u t n f o d g st sh st' x ps.length _ ⟨h0, r3, hloop, trivial⟩⟩
      have hc := CntF_code (r1 p hp).1
      exact ⟨⟨by omega, by omega, by omega, fun _ => .inr hc, by omega, by omega⟩, by have := (r1 p hp).2; omega⟩
  · by_cases h0 : n = 0
    · subst h0
      obtain ⟨ps, r0, r1, r2, _, r3⟩ := lengthedO 193 209 0 [] (by simp) (by omega)
      refine ⟨ps, st, by omega, fun p hp => ?_, r2, pcM0 u t f o d g st sh ps.length _ ⟨r3, trivial⟩⟩
      have hc := CntF_code (r1 p hp).1
      exact ⟨⟨by omega, by omega, by omega, by omega, fun _ => ⟨[], by simp, by simp, (r1 p hp).1⟩, by omega⟩, by have := (r1 p hp).2; simp at this; omega⟩
    · obtain ⟨x, st', hx, hnx, hloop⟩ := kidsC 22 u t n f o d g sh (by omega) (by omega) ihp st (by omega)
      obtain ⟨ps, r0, r1, r2, r3, _⟩ := lengthedO 193 209 n x (by omega) (by omega)
      refine ⟨ps, st', by omega, fun p hp => ?_, r2, pcM u t n f o d g st sh st' x ps.length _ ⟨r3, hloop, trivial⟩⟩
      have hc := CntF_code (r1 p hp).1
      exact ⟨⟨by omega, by omega, by omega, by omega, fun _ => ⟨x, by omega, hnx, (r1 p hp).1⟩, by omega⟩, by have := (r1 p hp).2; omega⟩
  · obtain ⟨ps, st', r0, r1, r2, r3⟩ := arrayC 23 u t n f o d g sh w4 (w7 rfl) (w8 rfl) hf ih ihd (by omega) st
    refine ⟨ps, st', by omega, fun p hp => ?_, r2, pc23 u t n f o d g st sh st' ps.length _ ⟨r3, trivial⟩⟩
    obtain ⟨⟨b, s1, s2, s3⟩, s4⟩ := r1 p hp
    have hc := CntF_code s3
    exact ⟨⟨by omega, by omega, by omega, by omega, by omega, fun _ => ⟨b, s1, s2, s3⟩⟩, by omega⟩

/-! ### A value -/
theorem putC_mk (k u : Int) (t : ByteArray) (n : Nat) (f : Nat → ValT) (o : Int) (d : Nat) (g : Nat → ValT) (sh : Bool) (hd : d ≤ 1) (hF : FormsOK sh (.mk k u t n f o d g)) (ihg : ∀ i, i < d → PutOK sh (g i))
    (hB : (ValT.mk k u t n f o d g).bd ≤ 900000000) : PutOK sh (.mk k u t n f o d g) := by
  intro st
  have hpb := pb_le (.mk k u t n f o d g)
  by_cases h0 : d = 0
  · obtain ⟨ps, st1, r0, r1, ⟨q0, r2, _⟩, r3⟩ := hF st d g
    have hlen : 1 ≤ ps.length := List.length_pos_of_mem r2
    obtain ⟨q, st2, ⟨hq0, hq1⟩, hpick⟩ := pickC ps.length st1 sh (by omega) (by omega)
    have hqn : q.toNat < ps.length := by omega
    have hmem : ps.getD q.toNat (0, []) ∈ ps := by rw [List.getD_eq_getElem?_getD, List.getElem?_eq_getElem hqn]; simp
    obtain ⟨hP, hL⟩ := r1 _ hmem
    refine ⟨byteI (ps.getD q.toNat (0, [])).1 :: (ps.getD q.toNat (0, [])).2, st2, ⟨by simp only [List.length_cons]; omega, by simp, fun _ => ⟨_, _, rfl, hP⟩⟩, ?_⟩
    refine (pva k u t n f o d g st sh st1 st2 q ps.length (fun i => (ps.getD i (0, [])).1) (fun i => (ps.getD i (0, [])).2) ⟨by omega, by omega, hpick, r3, h0, trivial⟩).cast rfl rfl ?_ rfl
    rw [show (byteI (ps.getD q.toNat (0, [])).1 :: (ps.getD q.toNat (0, [])).2).length = 1 + (ps.getD q.toNat (0, [])).2.length by simp [Nat.add_comm]]
  · obtain ⟨y, st1, ⟨hy, hy0, _⟩, hput⟩ := ihg 0 (by omega) st
    obtain ⟨ps, st2, r0, r1, ⟨q0, r2, _⟩, r3⟩ := hF st1 d g
    have hlen : 1 ≤ ps.length := List.length_pos_of_mem r2
    obtain ⟨q, st3, ⟨hq0, hq1⟩, hpick⟩ := pickC ps.length st2 sh (by omega) (by omega)
    have hqn : q.toNat < ps.length := by omega
    have hmem : ps.getD q.toNat (0, []) ∈ ps := by rw [List.getD_eq_getElem?_getD, List.getElem?_eq_getElem hqn]; simp
    obtain ⟨hP, hL⟩ := r1 _ hmem
    have h2 : (g 0).bd ≤ sumN (fun i => (g i).bd) 0 d := sumN_ge (g := fun i => (g i).bd) _ _ _ (Nat.le_refl _) (by omega)
    have h3 : (ValT.mk k u t n f o d g).pb + 10 + sumN (fun i => (g i).bd) 0 d ≤ (ValT.mk k u t n f o d g).bd := hpb
    refine ⟨(0 : UInt8) :: (y ++ byteI (ps.getD q.toNat (0, [])).1 :: (ps.getD q.toNat (0, [])).2), st3, ⟨by simp only [List.length_cons, List.length_append]; omega, by simp, fun h => absurd h h0⟩, ?_⟩
    refine (pvb k u t n f o d g st sh st1 st2 st3 q y ps.length (fun i => (ps.getD i (0, [])).1) (fun i => (ps.getD i (0, [])).2) ?_).cast rfl rfl ?_ rfl
    · simp only [AllP]
      repeat' (first | exact trivial | with_reducible apply And.intro | exact hpick | exact r3 | exact hput | omega)
    · rw [show ((0 : UInt8) :: (y ++ byteI (ps.getD q.toNat (0, [])).1 :: (ps.getD q.toNat (0, [])).2)).length = 1 + y.length + 1 + (ps.getD q.toNat (0, [])).2.length by simp only [List.length_cons, List.length_append]; omega]

theorem putAll (sh : Bool) : ∀ p : ValT, p.fits → p.bd ≤ 900000000 → PutOK sh p ∧ FormsOK sh p ∧ ∀ j, j < p.nd → PutOK sh (p.dscf j) := by
  have key : ∀ (k u : Int) (t : ByteArray) (n : Nat) (f : Nat → ValT) (o : Int) (d : Nat) (g : Nat → ValT), OwnFit k u t n f o d → (∀ i, i < n → (f i).fits) → (ValT.mk k u t n f o d g).bd ≤ 900000000 →
      (∀ i, i < n → PutOK sh (f i) ∧ FormsOK sh (f i) ∧ ∀ j, j < (f i).nd → PutOK sh ((f i).dscf j)) → (∀ i, i < d → PutOK sh (g i)) → PutOK sh (.mk k u t n f o d g) ∧ FormsOK sh (.mk k u t n f o d g) := by
    intro k u t n f o d g hw hf hB ih ihg
    have hF : FormsOK sh (.mk k u t n f o d g) := fun st d' g' => by
      have hpb := pb_le (.mk k u t n f o d g)
      have e : (ValT.mk k u t n f o d g).pb = 20 + t.size + sumN (fun i => (f i).bd) 0 n := rfl
      obtain ⟨w0, w1, w2, w3, w4⟩ := hw
      exact formsC k u t n f o sh ⟨w0, w1, w2, by omega, w4⟩ hf (fun i hi => (ih i hi).1) (fun i hi => (ih i hi).2.1) (fun h0 h1 => (ih 0 h0).2.2 0 h1) (by omega) d' g' st
    exact ⟨putC_mk k u t n f o d g sh hw.2.2.2.1 hF ihg hB, hF⟩
  intro p
  induction p with
  | nul =>
    intro _ _
    obtain ⟨a, b⟩ := key 0 0 .empty 0 (fun _ => .nul) 0 0 (fun _ => .nul) ⟨by decide, by decide, by decide, by omega, by omega, by decide, by omega, by omega, by omega⟩ (fun i hi => absurd hi (Nat.not_lt_zero i)) (by show 30 + ByteArray.empty.size + sumN _ 0 0 + sumN _ 0 0 ≤ _; simp [sumN]) (fun i hi => absurd hi (Nat.not_lt_zero i)) (fun i hi => absurd hi (Nat.not_lt_zero i))
    refine ⟨fun st => ?_, fun st d g => ?_, fun j hj => absurd hj (Nat.not_lt_zero j)⟩
    · obtain ⟨y, st', h1, h2⟩ := a st
      exact ⟨y, st', ⟨h1.1, h1.2.1, h1.2.2⟩, ACalls.vnulArg h2⟩
    · exact b st d g
  | mk k u t n f o d g ih ih2 =>
    intro hf hB
    have e : (ValT.mk k u t n f o d g).bd = 30 + t.size + sumN (fun i => (f i).bd) 0 n + sumN (fun i => (g i).bd) 0 d := rfl
    have hk : ∀ i, i < n → (f i).bd ≤ 900000000 := fun i hi => by
      have := sumN_ge (g := fun i => (f i).bd) n 0 i (Nat.zero_le _) (by omega)
      show (f i).bd ≤ _
      have h2 : (f i).bd ≤ sumN (fun i => (f i).bd) 0 n := this
      omega
    have hg : ∀ i, i < d → (g i).bd ≤ 900000000 := fun i hi => by
      have h2 : (g i).bd ≤ sumN (fun i => (g i).bd) 0 d := sumN_ge (g := fun i => (g i).bd) d 0 i (Nat.zero_le _) (by omega)
      omega
    obtain ⟨a, b⟩ := key k u t n f o d g hf.1 hf.2.1 hB (fun i hi => ih i (hf.2.1 i hi) (hk i hi)) (fun i hi => (ih2 i (hf.2.2 i hi) (hg i hi)).1)
    exact ⟨a, b, fun j hj => (ih2 j (hf.2.2 j hj) (hg j hj)).1⟩
end Go.Ax
