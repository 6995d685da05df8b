/-
  A value of MessagePack, written in chosen forms: what is written is one of its forms.
-/
import Derived.Test.YtdfefemnlimeeaaDoorGtK
set_option linter.unusedVariables false
set_option linter.unusedSimpArgs false
set_option maxRecDepth 100000
namespace Go.Ax
open Go.Proofs

theorem ba_len (t : ByteArray) : t.data.toList.length = t.size := Array.length_toList

theorem fit4 (n : Int) (hn : n < 4294967296) : fitB n 4 = true := by
  simp only [fitB, Bool.or_eq_true, decide_eq_true_eq]
  right
  show n < 256 ^ 4
  omega

def f3 (a b c : Int) : List (Int × Int) := [(a, 1), (b, 2), (c, 4)]
def f2 (a b : Int) : List (Int × Int) := [(a, 2), (b, 4)]

theorem head3 (n fx un a b c st : Int) (sh : Bool) (h0 : 0 ≤ n) (hn : n < 4294967296) :
    ∃ out st', HeadOut n fx un (f3 a b c) out ∧ ACalls Tryd.prog noG 37 [.ptr 0 0, .lit (.int .i64 n), .lit (.int .i64 fx), .lit (.int .i64 un), .own 1 0 3 (some 3)]
      [FR st sh, .cells 71 2 [.lit (.int .i64 a), .lit (.int .i64 1), .lit (.int .i64 b), .lit (.int .i64 2), .lit (.int .i64 c), .lit (.int .i64 4)]] (.own 2 0 out.length none) [FR st' sh, .gone, .bytes 5 out] := by
  have hne : sizesOf n (f3 a b c) ≠ [] := List.ne_nil_of_mem (a := (c, 4)) (List.mem_filter.2 ⟨by simp [f3], fit4 n hn⟩)
  obtain ⟨out, st', ho, cp, hc⟩ := putHeadC n fx un st sh 3 _ (f3 a b c) h0 hn (by simp [f3]) (by simp [f3]) hne (sizes3 n a b c h0 hn)
  refine ⟨out, st', ho, ACalls.freezeArg 1 rfl rfl ?_⟩
  refine hc.le ⟨Le.refl _, Le.refl _, Le.refl _, Le.refl _, Le_ro fun i hi => ?_, trivial⟩ (Le_cap _ _ _ _) rfl
  rcases (show i = 0 ∨ i = 1 ∨ i = 2 by omega) with rfl | rfl | rfl <;> rfl

theorem head2 (n fx un a b st : Int) (sh : Bool) (h0 : 0 ≤ n) (hn : n < 4294967296) :
    ∃ out st', HeadOut n fx un (f2 a b) out ∧ ACalls Tryd.prog noG 37 [.ptr 0 0, .lit (.int .i64 n), .lit (.int .i64 fx), .lit (.int .i64 un), .own 1 0 2 (some 2)]
      [FR st sh, .cells 71 2 [.lit (.int .i64 a), .lit (.int .i64 2), .lit (.int .i64 b), .lit (.int .i64 4)]] (.own 2 0 out.length none) [FR st' sh, .gone, .bytes 5 out] := by
  have hne : sizesOf n (f2 a b) ≠ [] := List.ne_nil_of_mem (a := (b, 4)) (List.mem_filter.2 ⟨by simp [f2], fit4 n hn⟩)
  obtain ⟨out, st', ho, cp, hc⟩ := putHeadC n fx un st sh 2 _ (f2 a b) h0 hn (by simp [f2]) (by simp [f2]) hne (sizes2 n a b h0 hn)
  refine ⟨out, st', ho, ACalls.freezeArg 1 rfl rfl ?_⟩
  refine hc.le ⟨Le.refl _, Le.refl _, Le.refl _, Le.refl _, Le_ro fun i hi => ?_, trivial⟩ (Le_cap _ _ _ _) rfl
  rcases (show i = 0 ∨ i = 1 by omega) with rfl | rfl <;> rfl

theorem HeadOut_len {n fx un : Int} {l : List (Int × Int)} {out : List UInt8} (hl : ∀ p ∈ l, p.2 = 1 ∨ p.2 = 2 ∨ p.2 = 4 ∨ p.2 = 8) (h : HeadOut n fx un l out) : out.length ≤ 9 := by
  rcases h with ⟨_, _, rfl⟩ | ⟨p, hp, rfl⟩
  · simp
  · exact headL_len _ _ _ (hl p (List.mem_filter.1 hp).1)

theorem IntOut_len {u : Int} {sg : Bool} {out : List UInt8} (h : IntOut u sg out) : out.length ≤ 9 := by
  unfold IntOut at h
  have small : ∀ i s : Nat, (i, s) ∈ [(0, 1), (1, 2), (2, 4), (3, 8)] → s ≤ 8 := fun i s hm => by simp at hm; omega
  split at h
  · rcases h with ⟨_, rfl⟩ | ⟨i, s, hm, _, rfl⟩
    · simp
    · have := small i s hm; simp [bigL_len]; omega
  · rcases h with ⟨_, rfl⟩ | ⟨p, hp, rfl⟩ | ⟨i, s, hm, _, rfl⟩
    · simp
    · exact headL_len _ _ _ (by have := (List.mem_filter.1 hp).1; simp at this; rcases this with rfl | rfl | rfl | rfl <;> simp)
    · have := small i s hm; simp [bigL_len]; omega

theorem ExtOut_len {n kd : Int} {out : List UInt8} (h : ExtOut n kd out) : out.length ≤ 10 := by
  rcases h with ⟨i, _, _, rfl⟩ | ⟨p, hp, rfl⟩
  · simp
  · have := headL_len p.1 p.2 n (by have := (List.mem_filter.1 hp).1; simp at this; rcases this with rfl | rfl | rfl <;> simp)
    simp; omega

def catM (g : Nat → List UInt8) : Nat → Nat → List UInt8
  | _, 0 => []
  | i, m + 1 => g i ++ catM g (i + 1) m

theorem catM_congr {g g' : Nat → List UInt8} : ∀ (m i : Nat), (∀ j, i ≤ j → j < i + m → g j = g' j) → catM g i m = catM g' i m
  | 0, _, _ => rfl
  | m + 1, i, h => by simp only [catM]; rw [h i (by omega) (by omega), catM_congr m (i + 1) (fun j h1 h2 => h j (by omega) (by omega))]

/-- The bytes are a form of the value. -/
def Enc : PackT → List UInt8 → Prop
  | .nul, out => out = [192]
  | .mk k u t e n f, out =>
    (k = 0 ∧ out = [192]) ∨ (k = 1 ∧ out = [byteI (194 + u)]) ∨ (k = 2 ∧ IntOut u true out) ∨ (k = 3 ∧ IntOut u false out) ∨ (k = 4 ∧ out = headL 202 4 u) ∨ (k = 5 ∧ out = headL 203 8 u) ∨
    (k = 6 ∧ ∃ h, HeadOut t.size 160 32 (f3 217 218 219) h ∧ out = h ++ t.data.toList) ∨ (k = 7 ∧ ∃ h, HeadOut t.size (-1) 0 (f3 196 197 198) h ∧ out = h ++ t.data.toList) ∨
    (k = 10 ∧ ∃ h, ExtOut t.size e h ∧ out = h ++ t.data.toList) ∨
    (k = 8 ∧ ∃ h g, HeadOut n 144 16 (f2 220 221) h ∧ (∀ i, i < n → Enc (f i) (g i)) ∧ out = h ++ catM g 0 n) ∨
    (k = 9 ∧ ∃ h g, HeadOut ((n : Int).tdiv 2) 128 16 (f2 222 223) h ∧ (∀ i, i < n → Enc (f i) (g i)) ∧ out = h ++ catM g 0 n)

theorem putLoop (n : Nat) (f : Nat → PackT) (sh : Bool) (hn : n ≤ 1000000) (B : Nat → Nat) (Q : Nat → List UInt8 → Prop)
    (ih : ∀ i, i < n → ∀ st : Int, ∃ y st', Q i y ∧ y.length ≤ B i ∧ ACalls Tryd.prog noG 24 [pAV (f i), .ptr 0 0] [FR st sh] (.own 1 0 y.length none) [FR st' sh, .bytes 5 y]) :
    ∀ (r i : Nat), n - i = r → i ≤ n → ∀ (st : Int) (x : List UInt8), x.length + sumN B i r ≤ 140737488355328 →
      ∃ g st', (∀ j, i ≤ j → j < n → Q j (g j)) ∧ (catM g i r).length ≤ sumN B i r ∧
        LoopK Tryd.prog noG 1 117 (loopAt Tryd.f24 0) [(1, .ptr 0 0), (5, .own 1 0 x.length none), (104, .ro 5 n (fun i => pcells (f i))), (105, .lit (.int .i64 n)), (106, .lit (.int .i64 i))] [FR st sh, .bytes 5 x] (.exit 1)
          [(1, .ptr 0 0), (5, .own 1 0 (x ++ catM g i r).length none)] [FR st' sh, .bytes 5 (x ++ catM g i r)]
  | 0, i, hr, hi, st, x, hx => by
    have hd : decide ((i : Int) < n) = false := by simp; omega
    refine ⟨fun _ => [], st, fun j h1 h2 => absurd h2 (by omega), by simp [catM], ?_⟩
    have := LoopK.exit (k := 1) (gpx i n f st st sh x [] ⟨hd, trivial⟩) (by simp)
    simpa [catM] using this
  | r + 1, i, hr, hi, st, x, hx => by
    have hlt : i < n := by omega
    have hd : decide ((i : Int) < n) = true := by simp; omega
    have hb : (0 : Int) ≤ i ∧ (i : Int) < n := by omega
    obtain ⟨y, st1, hq, hy, hc⟩ := ih i hlt st
    have w := wrapI i (by omega)
    have hle : leAll [pAV (f (i : Int).toNat), .ptr 0 0] [pAV (f i), .ptr 0 0] := by rw [Int.toNat_natCast]; exact leAll_refl _
    have e1 : sumN B i (r + 1) = B i + sumN B (i + 1) r := rfl
    rw [e1] at hx
    have ht : (List.take y.length (List.drop 0 y)).length = y.length := by simp
    have stp := gpl i n f st st1 sh x y ⟨by rw [ht]; omega, hc, hle, hb, hd, trivial⟩
    rw [w] at stp
    obtain ⟨g, st', h1, h2, h3⟩ := putLoop n f sh hn B Q ih r (i + 1) (by omega) (by omega) st1 (x ++ y) (by simp; omega)
    let g' : Nat → List UInt8 := fun j => if j = i then y else g j
    have hg : catM g' (i + 1) r = catM g (i + 1) r := catM_congr r (i + 1) (fun j q1 q2 => by simp only [g']; rw [if_neg (by omega)])
    have hg0 : g' i = y := by simp [g']
    refine ⟨g', st', fun j q1 q2 => ?_, ?_, ?_⟩
    · by_cases hj : j = i
      · subst hj; rw [hg0]; exact hq
      · simp only [g']; rw [if_neg hj]; exact h1 j (by omega) q2
    · simp only [catM, hg, hg0, List.length_append, e1]; omega
    · have es : x ++ catM g' i (r + 1) = x ++ y ++ catM g (i + 1) r := by simp only [catM, hg, hg0, List.append_assoc]
      rw [es]
      refine LoopK.step [some 0, some 2] stp rfl ?_
      refine h3.cast ?_ ?_ rfl rfl
      · rw [show (x ++ y).length = x.length + (List.take y.length (List.drop 0 y)).length by simp]; rfl
      · simp [outM, Row.ren, AV.renL, AV.ren, hL, nth]

/-- What a value is known to be. -/
theorem fitsFacts {k u : Int} {t : ByteArray} {e : Int} {n : Nat} {l : Int} (h1 : bad1 k u t e n l = false) (h2 : bad2 k u t n = false) :
    0 < l ∧ 0 ≤ k ∧ k < 11 ∧ (k ≠ 8 → k ≠ 9 → n = 0) ∧ n ≤ 2000 ∧ t.size ≤ 131072 ∧ -128 ≤ e ∧ e ≤ 127 ∧ (k = 1 → u ≤ 1) := by
  simp only [bad1, bad2, Bool.cond_true_left, Bool.cond_false_right, Bool.or_eq_false_iff, Bool.and_eq_false_imp, Bool.not_eq_true', decide_eq_false_iff_not, beq_iff_eq, Bool.or_eq_true, decide_eq_true_eq, Bool.not_eq_false', bne_iff_ne, bne_eq_false_iff_eq] at h1 h2
  obtain ⟨⟨⟨⟨⟨⟨⟨⟨a1, a2⟩, a3⟩, a4⟩, a5⟩, a6⟩, a7⟩, a8⟩, a9⟩ := h1
  obtain ⟨⟨⟨⟨b1, b2⟩, b3⟩, b4⟩, b5⟩ := h2
  refine ⟨by omega, by omega, by omega, fun q1 q2 => ?_, by omega, by omega, by omega, by omega, fun q => ?_⟩
  · have := a4 (by simp [q1, q2]); omega
  · have := b1 q; omega

theorem allN_get {g : Nat → Bool} : ∀ (m i : Nat), allN g i m = true → ∀ j, i ≤ j → j < i + m → g j = true
  | 0, i, _, j, h1, h2 => by omega
  | m + 1, i, h, j, h1, h2 => by
    simp only [allN, Bool.and_eq_true] at h
    by_cases hj : j = i
    · subst hj; exact h.1
    · exact allN_get m (i + 1) h.2 j (by omega) (by omega)

theorem sumN_le (g : Nat → Nat) : ∀ (m i j : Nat), i ≤ j → j < i + m → g j ≤ sumN g i m
  | 0, i, j, h1, h2 => by omega
  | m + 1, i, j, h1, h2 => by
    simp only [sumN]
    by_cases hj : j = i
    · subst hj; omega
    · have := sumN_le g m (i + 1) j (by omega) (by omega); omega

theorem sumN_mul (c : Nat) (g : Nat → Nat) : ∀ (m i : Nat), sumN (fun i => c * g i) i m = c * sumN g i m
  | 0, _ => rfl
  | m + 1, i => by simp only [sumN, sumN_mul c g m (i + 1), Nat.mul_add]

def Puts (p : PackT) (st : Int) (sh : Bool) (out : List UInt8) (st' : Int) : Prop :=
  Enc p out ∧ out.length ≤ 140000 * p.cnt ∧ ACalls Tryd.prog noG 24 [pAV p, .ptr 0 0] [FR st sh] (.own 1 0 out.length none) [FR st' sh, .bytes 5 out]

theorem putC : ∀ (p : PackT), p.wf → ∀ l : Int, p.fits l = true → p.cnt ≤ 1000000 → ∀ (st : Int) (sh : Bool), ∃ out st', Puts p st sh out st' := by
  intro p
  induction p with
  | nul =>
    intro _ l _ _ st sh
    refine ⟨[192], st, rfl, by simp [PackT.cnt], ACalls.nulArg ?_⟩
    exact ((gpp0 0 .empty 0 0 (fun _ => .nul) st st sh [] trivial).le (leAll_refl _) (Le_cap _ _ _ _) rfl)
  | mk k u t e n f ih =>
    intro hw l hf hc st sh
    simp only [PackT.fits, Bool.and_eq_true, Bool.not_eq_true'] at hf
    obtain ⟨⟨h1, h2⟩, h3⟩ := hf
    obtain ⟨l0, k0, k1, kn, n0, t0, e0, e1, ku⟩ := fitsFacts h1 h2
    obtain ⟨u0, u1, _, _, hwf⟩ := hw
    have tl := ba_len t
    have c1 : 1 ≤ (PackT.mk k u t e n f).cnt := by simp only [PackT.cnt]; omega
    have mult : 140000 ≤ 140000 * (PackT.mk k u t e n f).cnt := by omega
    have hcs : 1 + sumN (fun i => (f i).cnt) 0 n ≤ 1000000 := hc
    have kids : ∀ (x : List UInt8) (st : Int), x.length ≤ 9 → ∃ g st', (∀ i, i < n → Enc (f i) (g i)) ∧ (catM g 0 n).length ≤ 140000 * sumN (fun i => (f i).cnt) 0 n ∧
        CodeC Tryd.prog noG 117 (.loop (loopAt Tryd.f24 0)) [(1, .ptr 0 0), (5, .own 1 0 x.length none), (104, .ro 5 n (fun i => pcells (f i))), (105, .lit (.int .i64 n)), (106, .lit (.int .i64 0))] [FR st sh, .bytes 5 x] (.exit 1)
          [(1, .ptr 0 0), (5, .own 2 0 (x ++ catM g 0 n).length none)] [FR st' sh, .gone, .bytes 5 (x ++ catM g 0 n)] := fun x st hx => by
      obtain ⟨g, st', q1, q2, q3⟩ := putLoop n f sh (by omega) (fun i => 140000 * (f i).cnt) (fun i y => Enc (f i) y) (fun i hi st => by
        have hfi := allN_get n 0 h3 i (by omega) (by omega)
        have := sumN_le (fun i => (f i).cnt) n 0 i (by omega) (by omega)
        obtain ⟨y, st', r1, r2, r3⟩ := ih i (hwf i hi) (l - 1) hfi (by omega) st sh
        exact ⟨y, st', r1, r2, r3⟩) n 0 (by omega) (by omega) st x (by rw [sumN_mul]; omega)
      rw [sumN_mul] at q2
      exact ⟨g, st', fun i hi => q1 i (by omega) hi, q2, (LoopK.code [some 0, none, some 1] q3 rfl rfl).cast rfl rfl rfl rfl⟩
    have leaf : ∀ {out : List UInt8} {st' : Int}, Enc (.mk k u t e n f) out → out.length ≤ 140000 → ACalls Tryd.prog noG 24 [.agg (mcells k u t e n f), .ptr 0 0] [FR st sh] (.own 1 0 out.length none) [FR st' sh, .bytes 5 out] →
        ∃ out st', Puts (.mk k u t e n f) st sh out st' := fun a b c => ⟨_, _, a, by omega, c⟩
    rcases (show k = 0 ∨ k = 1 ∨ k = 2 ∨ k = 3 ∨ k = 4 ∨ k = 5 ∨ k = 6 ∨ k = 7 ∨ k = 8 ∨ k = 9 ∨ k = 10 by omega) with rfl | rfl | rfl | rfl | rfl | rfl | rfl | rfl | rfl | rfl | rfl
    · exact leaf (out := [192]) (st' := st) (.inl ⟨rfl, rfl⟩) (by simp) ((gpp0 u t e n f st st sh [] trivial).le (leAll_refl _) (Le_cap _ _ _ _) rfl)
    · have w : IntKind.u64.wrap (194 + u) = 194 + u := by rw [wrapU64]; have := ku rfl; omega
      exact leaf (out := [byteI (194 + u)]) (st' := st) (.inr (.inl ⟨rfl, rfl⟩)) (by simp) ((gpp1 u t e n f st st sh [] trivial).le (leAll_refl _) (Le_cap _ _ _ _) (by rw [w, ofNatU8]))
    · obtain ⟨out, st', ho, hx⟩ := putIntC u st sh true u0 u1
      exact leaf (.inr (.inr (.inl ⟨rfl, ho⟩))) (by have := IntOut_len ho; omega) (gpp2 u t e n f st st' sh out ⟨hx, trivial⟩)
    · obtain ⟨out, st', ho, hx⟩ := putIntC u st sh false u0 u1
      exact leaf (.inr (.inr (.inr (.inl ⟨rfl, ho⟩)))) (by have := IntOut_len ho; omega) (gpp3 u t e n f st st' sh out ⟨hx, trivial⟩)
    · exact leaf (.inr (.inr (.inr (.inr (.inl ⟨rfl, rfl⟩))))) (by have := headL_len 202 4 u (by omega); omega) (gpp4 u t e n f st st sh _ ⟨headC 202 4 u (by omega), trivial⟩)
    · exact leaf (.inr (.inr (.inr (.inr (.inr (.inl ⟨rfl, rfl⟩)))))) (by have := headL_len 203 8 u (by omega); omega) (gpp5 u t e n f st st sh _ ⟨headC 203 8 u (by omega), trivial⟩)
    · obtain ⟨h, st', ho, hx⟩ := head3 t.size 160 32 217 218 219 st sh (by omega) (by omega)
      have hl := HeadOut_len (by simp [f3]) ho
      exact leaf (out := h ++ t.data.toList) (st' := st') (.inr (.inr (.inr (.inr (.inr (.inr (.inl ⟨rfl, h, ho, rfl⟩))))))) (by simp only [List.length_append, tl]; omega)
        ((gpp6 u t e n f st st' sh h ⟨by rw [tl]; omega, hx, trivial⟩).cast rfl rfl (by simp) (by simp))
    · obtain ⟨h, st', ho, hx⟩ := head3 t.size (-1) 0 196 197 198 st sh (by omega) (by omega)
      have hl := HeadOut_len (by simp [f3]) ho
      exact leaf (out := h ++ t.data.toList) (st' := st') (.inr (.inr (.inr (.inr (.inr (.inr (.inr (.inl ⟨rfl, h, ho, rfl⟩)))))))) (by simp only [List.length_append, tl]; omega)
        ((gpp7 u t e n f st st' sh h ⟨by rw [tl]; omega, hx, trivial⟩).cast rfl rfl (by simp) (by simp))
    · obtain ⟨h, st', ho, hx⟩ := head2 n 144 16 220 221 st sh (by omega) (by omega)
      have hl := HeadOut_len (by simp [f2]) ho
      obtain ⟨g, st2, g1, g2, g3⟩ := kids h st' hl
      refine ⟨h ++ catM g 0 n, st2, .inr (.inr (.inr (.inr (.inr (.inr (.inr (.inr (.inr (.inl ⟨rfl, h, g, ho, g1, rfl⟩))))))))), ?_, gpp8 u t e n f st st' sh h st2 _ ⟨g3, hx, trivial⟩⟩
      simp only [PackT.cnt, List.length_append]; omega
    · have hn2 : (n : Int).tdiv 2 = (n / 2 : Nat) := by simp [Int.tdiv_eq_ediv_of_nonneg]
      have wn : IntKind.i64.wrap ((n : Int).tdiv 2) = (n : Int).tdiv 2 := by rw [hn2]; exact wrap64 (by omega) (by omega)
      obtain ⟨h, st', ho, hx⟩ := head2 ((n : Int).tdiv 2) 128 16 222 223 st sh (by omega) (by omega)
      have hl := HeadOut_len (by simp [f2]) ho
      obtain ⟨g, st2, g1, g2, g3⟩ := kids h st' hl
      refine ⟨h ++ catM g 0 n, st2, .inr (.inr (.inr (.inr (.inr (.inr (.inr (.inr (.inr (.inr ⟨rfl, h, g, ho, g1, rfl⟩))))))))), ?_, gpp9 u t e n f st st' sh h st2 _ ⟨g3, hx, by rw [wn]; exact leAll_refl _, trivial⟩⟩
      simp only [PackT.cnt, List.length_append]; omega
    · obtain ⟨h, st', ho, hx⟩ := putExtC t.size e st sh (by omega) (by omega)
      have hl := ExtOut_len ho
      exact leaf (out := h ++ t.data.toList) (st' := st') (.inr (.inr (.inr (.inr (.inr (.inr (.inr (.inr (.inl ⟨rfl, h, ho, rfl⟩))))))))) (by simp only [List.length_append, tl]; omega)
        ((gpp10 u t e n f st st' sh h ⟨by rw [tl]; omega, hx, trivial⟩).cast rfl rfl (by simp) (by simp))
end Go.Ax
