/-
  laws.FnStreamPutExtRaw by a contract.
-/
import Derived.Test.YtkbmfpkbegjhcaaWxI
import Derived.Test.YtkbmfpkbegjhcaaWxJ
import Derived.Test.YtkbmfpkbegjhcaaWxL
import Derived.Test.YtkbmfpkbegjhcaaSgT
import Derived.Test.YtkbmfpkbegjhcaaSgK
set_option linter.unusedVariables false
set_option linter.unusedSimpArgs false
set_option maxRecDepth 100000
namespace Go.Ax
open Go.Proofs

theorem Le_ro2 {sz n : Nat} {get get' : Nat → List AV} (hl : ∀ i, i < n → (get' i).length = (get i).length)
    (h : ∀ (i j : Nat) (c c' : AV), i < n → (get i)[j]? = some c → (get' i)[j]? = some c' → ∀ (O : Nat → Prop) (w : World) (v : Value), DR O w c v → DR O w c' v) : Le (.ro sz n get) (.ro sz n get') := fun ρ hp O w v hv => by
  have back : ∀ i j c', i < n → (get' i)[j]? = some c' → ∃ c, (get i)[j]? = some c := fun i j c' hi hc => by
    have hj := (List.getElem?_eq_some_iff.1 hc).1
    rw [hl i hi] at hj
    exact ⟨_, List.getElem?_eq_some_iff.2 ⟨hj, rfl⟩⟩
  cases hv with
  | dr hd =>
    cases hd with
    | ro val g1 g2 g3 g4 g5 g6 g7 =>
      exact .dr (.ro val g1 g2 g3 g4 (fun i hi => by rw [hl i hi]; exact g5 i hi) (fun i j c' hi hc => by obtain ⟨c, hcc⟩ := back i j c' hi hc; exact g6 i j c hi hcc)
        (fun i j c' hi hc => by obtain ⟨c, hcc⟩ := back i j c' hi hc; exact h i j c c' hi hcc hc O w _ (g7 i j c hi hcc)))
    | ronil => exact .dr .ronil

abbrev eAV (t : ByteArray) (e : Int) : AV := .agg [iL 10, uL 0, sL t, iL e, nL]

theorem takeExtC (t : ByteArray) (e : Int) (he : -128 ≤ e ∧ e ≤ 127) (ht : t.size ≤ 65536) (r : List UInt8) (hr : r.length ≤ 1000000000000) :
    A0 42 [uL t.size, .bts (byteI (IntKind.i8.wrap e) :: (t.data.toList ++ r))] [] (.tup [eAV t e, .bts r, bL true]) [] := by
  have tl := ba_len t
  have w1 : IntKind.u64.wrap ((1 : Int) + (t.size : Int)) = ((t.size + 1 : Nat) : Int) := by rw [wrapU64]; omega
  have hlen : (byteI (IntKind.i8.wrap e) :: (t.data.toList ++ r)).length = t.size + r.length + 1 := by simp only [List.length_cons, List.length_append, tl]
  have w2 : IntKind.i64.wrap (((t.size + r.length + 1 : Nat) : Int) - 1) = ((t.size + r.length : Nat) : Int) := by rw [wrap64 (by omega) (by omega)]; omega
  have w3 : IntKind.u64.wrap ((t.size + r.length : Nat) : Int) = ((t.size + r.length : Nat) : Int) := by rw [wrapU64]; omega
  have d : decide ((t.size : Int) > ((t.size + r.length : Nat) : Int)) = false := by simp; omega
  have q := xt t.size (byteI (IntKind.i8.wrap e)) (t.data.toList ++ r) (by
    simp only [AllP, w1, hlen, w2, w3]
    repeat' (first | exact trivial | exact d | omega | with_reducible apply And.intro | exact rfl))
  refine q.cast rfl rfl ?_ rfl
  have hb : (((byteI (IntKind.i8.wrap e)).toNat : Nat) : Int) = IntKind.i8.wrap e % 256 := by rw [byteI_nat]; omega
  have h8 : ∀ v : Int, IntKind.i8.wrap v = (v + 128) % 256 - 128 := fun v => by simp only [IntKind.wrap, IntKind.bits, IntKind.signed]; simp; try omega
  have hv : IntKind.i64.wrap (IntKind.i8.wrap (((byteI (IntKind.i8.wrap e)).toNat : Nat) : Int)) = e := by
    rw [hb, h8, h8, wrap64 (by omega) (by omega)]; omega
  have e1 : List.drop (Int.toNat (1 : Int)) (List.take (IntKind.u64.wrap ((1 : Int) + (t.size : Int))).toNat (byteI (IntKind.i8.wrap e) :: (t.data.toList ++ r))) = t.data.toList := by
    rw [w1, Int.toNat_natCast, List.take_succ_cons]
    show List.take t.size (t.data.toList ++ r) = _
    rw [← tl, List.take_left]
  have e2 : List.drop (IntKind.u64.wrap ((1 : Int) + (t.size : Int))).toNat (List.take (((byteI (IntKind.i8.wrap e) :: (t.data.toList ++ r)).length : Nat) : Int).toNat (byteI (IntKind.i8.wrap e) :: (t.data.toList ++ r))) = r := by
    rw [Int.toNat_natCast, List.take_length, w1, Int.toNat_natCast, List.drop_succ_cons, ← tl, List.drop_left]
  rw [e1, e2, List.getD_cons_zero, hv]

theorem takeX (t : ByteArray) (e : Int) (he : -128 ≤ e ∧ e ≤ 127) (ht : t.size ≤ 65536) (r : List UInt8) (hr : r.length ≤ 1000000000000) :
    A0 22 [.bts (hdr t.size (IntKind.i8.wrap e) ++ t.data.toList ++ r), iL 2] [] (.tup [eAV t e, .bts r, bL true]) [] := by
  have c := takeExtC t e he ht r hr
  have fx : ∀ (i : Nat), t.size = i → A0 42 [uL (i : Int), .bts (byteI (IntKind.i8.wrap e) :: (t.data.toList ++ r))] [] (.tup [eAV t e, .bts r, bL true]) [] := fun i h => by subst h; exact c
  have z := takeBig (byteI (IntKind.i8.wrap e) :: (t.data.toList ++ r)) 0 (Nat.zero_le _) (by decide)
  have big : ∀ (hs : List UInt8) (k : Nat), hs.length = k → k < 1000 → bigA 0 hs = t.size →
      A0 41 [.bts (hs ++ byteI (IntKind.i8.wrap e) :: (t.data.toList ++ r)), iL k] [] (.tup [uL t.size, .bts (byteI (IntKind.i8.wrap e) :: (t.data.toList ++ r)), bL true]) [] := fun hs k hk h1 h2 => by
    have q := takeBig (hs ++ byteI (IntKind.i8.wrap e) :: (t.data.toList ++ r)) k (by simp; omega) h1
    rw [← hk, List.take_left, List.drop_left, h2] at q
    rw [← hk]
    exact q
  have fin : ∀ (x : Nat) (xs : List UInt8), (1 : Int) ≤ (xs.length : Int) + 1 := fun x xs => by omega
  rw [List.append_assoc]
  unfold hdr
  split
  · next h =>
    have b := big [0] 1 rfl (by decide) (by rw [h]; rfl)
    exact tp199 t.size ([0] ++ byteI (IntKind.i8.wrap e) :: (t.data.toList ++ r)) (byteI (IntKind.i8.wrap e) :: (t.data.toList ++ r)) r t e ⟨c, b, fin 0 _, trivial⟩
  split
  · next h => exact tp0 (byteI (IntKind.i8.wrap e) :: (t.data.toList ++ r)) r t e ⟨fx 1 h, z, fin 0 _, trivial⟩
  split
  · next h => exact tp1 (byteI (IntKind.i8.wrap e) :: (t.data.toList ++ r)) r t e ⟨fx 2 h, z, fin 0 _, trivial⟩
  split
  · next h => exact tp2 (byteI (IntKind.i8.wrap e) :: (t.data.toList ++ r)) r t e ⟨fx 4 h, z, fin 0 _, trivial⟩
  split
  · next h => exact tp3 (byteI (IntKind.i8.wrap e) :: (t.data.toList ++ r)) r t e ⟨fx 8 h, z, fin 0 _, trivial⟩
  split
  · next h => exact tp4 (byteI (IntKind.i8.wrap e) :: (t.data.toList ++ r)) r t e ⟨fx 16 h, z, fin 0 _, trivial⟩
  split
  · next h =>
    have b := big [byteI (t.size : Int)] 1 rfl (by decide) (by simp only [bigA, byteI_nat]; omega)
    exact tp199 t.size ([byteI (t.size : Int)] ++ byteI (IntKind.i8.wrap e) :: (t.data.toList ++ r)) (byteI (IntKind.i8.wrap e) :: (t.data.toList ++ r)) r t e ⟨c, b, fin 0 _, trivial⟩
  split
  · next h1 h2 =>
    have w : IntKind.u16.wrap (t.size : Int) = t.size := by rw [wrapU16]; omega
    rw [w]
    have b := big [byteI ((t.size : Int).fdiv 256), byteI (t.size : Int)] 2 rfl (by decide) (by rw [Int.fdiv_eq_ediv_of_nonneg _ (by omega)]; simp only [bigA, byteI_nat]; omega)
    exact tp200 t.size ([byteI ((t.size : Int).fdiv 256), byteI (t.size : Int)] ++ byteI (IntKind.i8.wrap e) :: (t.data.toList ++ r)) (byteI (IntKind.i8.wrap e) :: (t.data.toList ++ r)) r t e ⟨c, b, fin 0 _, trivial⟩
  · next h1 h2 =>
    have w : IntKind.u32.wrap (t.size : Int) = t.size := by rw [wrapU32]; omega
    rw [w]
    have b := big [byteI ((t.size : Int).fdiv 16777216), byteI ((t.size : Int).fdiv 65536), byteI ((t.size : Int).fdiv 256), byteI (t.size : Int)] 4 rfl (by decide)
      (by rw [Int.fdiv_eq_ediv_of_nonneg _ (by omega), Int.fdiv_eq_ediv_of_nonneg _ (by omega), Int.fdiv_eq_ediv_of_nonneg _ (by omega)]; simp only [bigA, byteI_nat]; omega)
    exact tp201 t.size ([byteI ((t.size : Int).fdiv 16777216), byteI ((t.size : Int).fdiv 65536), byteI ((t.size : Int).fdiv 256), byteI (t.size : Int)] ++ byteI (IntKind.i8.wrap e) :: (t.data.toList ++ r)) (byteI (IntKind.i8.wrap e) :: (t.data.toList ++ r)) r t e ⟨c, b, fin 0 _, trivial⟩

theorem sameX (t : ByteArray) (e : Int) (g : Nat → List AV) : A0 23 [.agg [iL 10, uL 0, sL t, iL e, .ro 5 0 g], eAV t e] [] (bL true) [] := sp t e g ⟨by simp, trivial⟩

/-- A pack that is an extension, and asked. -/
def Asked (p : PackT) : Prop := ∃ t e g, p = .mk 10 0 t e 0 g ∧ t.size ≤ 65536 ∧ -128 ≤ e ∧ e ≤ 127

theorem extFacts {u : Int} {t : ByteArray} {e : Int} {n : Nat} (h1 : bad1 10 u t e n 1 = false) (h2 : bad2 10 u t n = false) : u = 0 ∧ n = 0 ∧ -128 ≤ e ∧ e ≤ 127 := by
  simp [bad1, bad2] at h1 h2
  omega
theorem asked_of {p : PackT} (hk : p.kind = 10) (hf : (decide (p.cnt ≤ 2000) && p.fits 1) = true) (hs : p.text.size ≤ 65536) : Asked p := by
  cases p with
  | nul => simp [PackT.kind] at hk
  | mk k u t e n g =>
    simp only [PackT.kind] at hk
    subst hk
    simp only [Bool.and_eq_true, PackT.fits, Bool.not_eq_true'] at hf
    obtain ⟨rfl, rfl, h3, h4⟩ := extFacts hf.2.1.1 hf.2.1.2
    exact ⟨t, e, g, rfl, hs, h3, h4⟩

section
variable (n0 : Nat) (f : Nat → PackT)
def allX (i : Nat) : List UInt8 := ((List.range n0).drop i).flatMap fun i => encX (f i)
theorem allX_step (i : Nat) (h : i < n0) : allX n0 f i = encX (f i) ++ allX n0 f (i + 1) := by
  unfold allX
  rw [List.drop_eq_getElem_cons (by simpa using h), List.flatMap_cons]
  simp
theorem allX_len (hA : ∀ i, i < n0 → Asked (f i)) : ∀ (m i : Nat), n0 - i = m → i ≤ n0 → (allX n0 f i).length ≤ m * 70000
  | 0, i, hm, hi => by
    have : i = n0 := by omega
    subst this
    rw [allX, List.drop_of_length_le (by simp)]; simp
  | m + 1, i, hm, hi => by
    have h1 := allX_len hA m (i + 1) (by omega) (by omega)
    rw [allX_step n0 f i (by omega), List.length_append, Nat.add_mul]
    obtain ⟨t, e, g, hp, ht, _, _⟩ := hA i (by omega)
    have := encX_len (f i) (by rw [hp]; exact ht)
    omega
abbrev slI (d : List UInt8) (i : Nat) : List (Nat × AV) := [(0, .bts d), (1, bL true), (12, .ro 5 n0 (fun i => pcells (f i))), (13, iL n0), (14, iL i)]
theorem orderLoop (hn : n0 ≤ 10000) (hA : ∀ i, i < n0 → Asked (f i)) : ∀ (m i : Nat), n0 - i = m → i ≤ n0 → LoopC Try.prog noG 44 (loopAt Try.f13 0) (slI n0 f (allX n0 f i) i) [] (.exit 0) [(0, .bts []), (1, bL true)] []
  | 0, i, hm, hi => by
    have he : i = n0 := by omega
    subst he
    have h0 : allX i f i = [] := by rw [allX, List.drop_of_length_le (by simp)]; rfl
    rw [h0]
    exact LoopC.exit (iox [] i f i ⟨by simp, trivial⟩) (by simp)
  | m + 1, i, hm, hi => by
    have hlt : i < n0 := by omega
    have hl := allX_len n0 f hA m (i + 1) (by omega) (by omega)
    have hle : m * 70000 ≤ 10000 * 70000 := Nat.mul_le_mul_right _ (by omega)
    obtain ⟨t, e, g, hp, ht, h1, h2⟩ := hA i hlt
    have hs := allX_step n0 f i hlt
    have hen : encX (f i) = hdr t.size (IntKind.i8.wrap e) ++ t.data.toList := by rw [hp]; rfl
    rw [hs, hen]
    have tk := takeX t e ⟨h1, h2⟩ ht (allX n0 f (i + 1)) (by omega)
    have sm : A0 23 [.agg (pcells (f i)), eAV t e] [] (bL true) [] := by rw [hp]; exact sameX t e _
    have lf : leAll [.agg (pcells (f ((i : Nat) : Int).toNat)), eAV t e] [.agg (pcells (f i)), eAV t e] := by rw [Int.toNat_natCast]; exact leAll_refl _
    have st := iol (hdr t.size (IntKind.i8.wrap e) ++ t.data.toList ++ allX n0 f (i + 1)) (allX n0 f (i + 1)) n0 f i t e (by
      simp only [AllP]
      repeat' (first | exact trivial | exact sm | exact lf | exact tk | (simp; omega) | omega | exact leAll_refl _ | exact Le.refl _ | with_reducible apply And.intro | exact rfl))
    have w := wq i 1 (by omega)
    rw [show ((1 : Nat) : Int) = 1 from rfl] at w
    rw [w] at st
    exact LoopC.step st (orderLoop hn hA m (i + 1) (by omega) (by omega))
theorem orderX (hn : n0 ≤ 10000) (hA : ∀ i, i < n0 → Asked (f i)) : A0 13 [.bts (allX n0 f 0), bL true, .ro 5 n0 (fun i => pcells (f i))] [] (bL true) [] := by
  have lp := (orderLoop n0 f hn hA n0 0 (by omega) (Nat.zero_le _)).code
  refine io (allX n0 f 0) n0 f ?_
  simp only [AllP]
  repeat' (first | exact trivial | exact lp | exact Le.refl _ | with_reducible apply And.intro | exact rfl)

theorem buffers1 (a : Int) : A0 11 [iL a, iL 1] [] (bL (decide (18 ≤ a ∧ a ≤ 65536))) [] :=
  (q11 a 1 trivial).cast rfl rfl (by
    congr 2
    by_cases h1 : 18 ≤ a <;> by_cases h2 : a ≤ 65536 <;> simp [h1, h2]) rfl

abbrev slL (a : Int) (i : Nat) : List (Nat × AV) := [(0, iL a), (1, .ro 5 n0 (fun i => pcells (f i))), (7, bL true), (36, .ro 5 n0 (fun i => pcells (f i))), (37, iL n0), (38, iL i)]
theorem lawLoop (a : Int) (hn : n0 ≤ 10000) (hw : ∀ i, i < n0 → (f i).wf) : ∀ (m i : Nat), n0 - i = m → i ≤ n0 →
    (LoopC Try.prog noG 71 (loopAt Try.f4 0) (slL n0 f a i) [] (.exit 0) [(0, iL a), (1, .ro 5 n0 (fun i => pcells (f i))), (7, bL true)] [] ∧ ∀ j, i ≤ j → j < n0 → Asked (f j)) ∨
    LoopC Try.prog noG 71 (loopAt Try.f4 0) (slL n0 f a i) [] .ret [(4, bL true)] []
  | 0, i, hm, hi => .inl ⟨LoopC.exit (lx a n0 f i ⟨by simp; omega, trivial⟩) (by simp), fun j h1 h2 => by omega⟩
  | m + 1, i, hm, hi => by
    have hlt : i < n0 := by omega
    have hd : decide ((i : Int) < n0) = true := by simp; omega
    by_cases hk : (f i).kind = 10
    · have pf := packFitsC (f i) (hw i hlt) 1 (by decide) (by decide)
      have lf : leAll [.agg (pcells (f ((i : Nat) : Int).toNat)), iL 1] [.agg (pcells (f i)), iL 1] := by rw [Int.toNat_natCast]; exact leAll_refl _
      by_cases hg : (decide ((f i).cnt ≤ 2000) && (f i).fits 1) = true ∧ (f i).text.size ≤ 65536
      · have e := l3 a n0 f i (decide ((f i).cnt ≤ 2000) && (f i).fits 1) (by
          have hs : decide (((f i).text.size : Int) > 65536) = false := by simp; omega
          have hk1 : ((f i).kind != (10 : Int)) = false := by simp [hk]
          simp only [AllP, Int.toNat_natCast]
          repeat' (first | exact trivial | exact pf | exact lf | exact hd | exact hk1 | omega | (simp [hk, hg.1, hs]; done) | (simp [hk, hg.1, hs]; omega) | exact leAll_refl _ | exact Le.refl _ | with_reducible apply And.intro | exact rfl))
        have w := wq i 1 (by omega)
        rw [show ((1 : Nat) : Int) = 1 from rfl] at w
        rw [w] at e
        rcases lawLoop a hn hw m (i + 1) (by omega) (by omega) with ⟨h, hq⟩ | h
        · refine .inl ⟨LoopC.step e h, fun j h1 h2 => ?_⟩
          by_cases hj : j = i
          · subst hj; exact asked_of hk hg.1 hg.2
          · exact hq j (by omega) h2
        · exact .inr (LoopC.step e h)
      · have e := l2 a n0 f i (decide ((f i).cnt ≤ 2000) && (f i).fits 1) (by
          have hs : (bif !(decide ((f i).cnt ≤ 2000) && (f i).fits 1) then true else decide (((f i).text.size : Int) > 65536)) = true := by
            cases hb : (decide ((f i).cnt ≤ 2000) && (f i).fits 1) with
            | false => rfl
            | true =>
              have : ¬ (f i).text.size ≤ 65536 := fun h => hg ⟨hb, h⟩
              simp; omega
          have hk1 : ((f i).kind != (10 : Int)) = false := by simp [hk]
          simp only [AllP, Int.toNat_natCast]
          repeat' (first | exact trivial | exact pf | exact lf | exact hd | exact hs | exact hk1 | omega | (simp [hk]; done) | (rw [hk1]; exact hs) | exact leAll_refl _ | exact Le.refl _ | with_reducible apply And.intro | exact rfl))
        exact .inr (LoopC.exit e (by simp))
    · have e := l1 a n0 f i (by
        have hs : ((f i).kind != (10 : Int)) = true := by simp [hk]
        simp only [AllP, Int.toNat_natCast]
        repeat' (first | exact trivial | exact hd | exact hs | omega | (simp; done) | (simp [hk]; done) | exact leAll_refl _ | exact Le.refl _ | with_reducible apply And.intro | exact rfl))
      exact .inr (LoopC.exit e (by simp))

theorem sampleX : A0 10 [iL 100, .own 0 0 1 (some 1)] [.cells 28 5 [iL 10, uL 0, sL ⟨#[97]⟩, iL 10, nL]] (.tup [.bts [212, 10, 97], bL true]) [.gone] := by
  refine ACalls.freezeArg 0 (r := .cells 28 5 [iL 10, uL 0, sL ⟨#[97]⟩, iL 10, nL]) rfl rfl ?_
  have h := streamX 1 (fun _ => .mk 10 0 ⟨#[97]⟩ 10 0 (fun _ => .nul)) (by decide) (fun i hi => by decide) 100 (by decide) (by decide)
  refine ((h.le (args' := [iL 100, .ro 5 1 (fun i => (([iL 10, uL 0, sL ⟨#[97]⟩, iL 10, nL] : List AV).drop (0 + i * 5)).take 5)]) ?_ (Le.refl _) rfl).frame [.gone] ?_ rfl).cast rfl rfl ?_ rfl
  · refine ⟨Le.refl _, Le_ro2 (fun i hi => by rw [show i = 0 by omega]; rfl) (fun i j c c' hi hc hc' O w v hv => ?_), trivial⟩
    rw [show i = 0 by omega] at hc hc'
    match j with
    | 0 => simp at hc; subst hc; cases hc'; exact hv
    | 1 => simp at hc; subst hc; cases hc'; exact hv
    | 2 => simp at hc; subst hc; cases hc'; exact hv
    | 3 => simp at hc; subst hc; cases hc'; exact hv
    | 4 => simp at hc; subst hc; cases hc'; rw [DR_lit hv]; exact .ronil
    | j + 5 => simp at hc
  · exact ⟨Le.refl _, Le.refl _, trivial⟩
  · rfl

theorem lawX (a : Int) (hw : ∀ i, i < n0 → (f i).wf) : A0 4 [iL a, .ro 5 n0 (fun i => pcells (f i))] [] (bL true) [] := by
  by_cases h1 : (2147483647 : Int) < n0
  · exact m1 a n0 f ⟨decide_eq_true h1, trivial⟩
  · have d0 : decide ((n0 : Int) > 2147483647) = false := by simp; omega
    have sx := sampleX
    have b := buffers1 a
    by_cases hb : 18 ≤ a ∧ a ≤ 65536
    · rw [decide_eq_true hb] at b
      by_cases h2 : n0 ≤ 100
      · have d1 : decide ((n0 : Int) > 100) = false := by simp; omega
        rcases lawLoop n0 f a (by omega) hw n0 0 (by omega) (Nat.zero_le _) with ⟨h, hA⟩ | h
        · have lp := h.code
          obtain ⟨N, rfl⟩ := Int.eq_ofNat_of_zero_le (show 0 ≤ a by omega)
          have s := streamX n0 f (by omega) (fun i hi => by obtain ⟨t, e, g, hp, ht, _⟩ := hA i (Nat.zero_le _) hi; rw [hp]; exact ht) N (by omega) (by omega)
          have o := orderX n0 f (by omega) (fun i hi => hA i (Nat.zero_le _) hi)
          refine m5 N n0 f (allX n0 f 0) ?_
          simp only [AllP, leAll]
          repeat' (first | exact trivial | exact sx | exact b | exact lp | exact s | exact o | exact d0 | exact d1 | exact Le.refl _ | exact RowLe.refl _ | omega | with_reducible apply And.intro | exact rfl)
        · have lp := h.code
          refine m4 a n0 f ?_
          simp only [AllP, leAll]
          repeat' (first | exact trivial | exact sx | exact b | exact lp | exact d0 | exact d1 | exact Le.refl _ | exact RowLe.refl _ | omega | with_reducible apply And.intro | exact rfl)
      · have d1 : decide ((n0 : Int) > 100) = true := by simp; omega
        refine m3 a n0 f ?_
        simp only [AllP, leAll]
        repeat' (first | exact trivial | exact sx | exact b | exact d0 | exact d1 | exact Le.refl _ | exact RowLe.refl _ | omega | with_reducible apply And.intro | exact rfl)
    · rw [decide_eq_false hb] at b
      refine m2 a n0 f ?_
      simp only [AllP, leAll]
      repeat' (first | exact trivial | exact sx | exact b | exact d0 | exact Le.refl _ | exact RowLe.refl _ | omega | with_reducible apply And.intro | exact rfl)
end
end Go.Ax
