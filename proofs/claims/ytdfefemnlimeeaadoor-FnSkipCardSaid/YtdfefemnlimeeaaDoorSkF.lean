/-
  Skipping a value of MessagePack: what skipDepth passes and refuses.
-/
import Derived.Test.YtdfefemnlimeeaaDoorSkE
import Derived.Test.YtdfefemnlimeeaaDoorSkB
set_option linter.unusedVariables false
set_option linter.unusedSimpArgs false
set_option maxRecDepth 100000
namespace Go.Ax
open Go.Proofs

section
variable (u0 : Nat)

/-- A head with a length in one, two or four bytes, something fixed behind it, and the bytes. -/
theorem h3Ok (a b c k z : Int) (q : Nat) (hq : q ≤ 1) (ta : TAB (byteI a) ((2 + q : Nat) : Int) (-1) k z) (tb : TAB (byteI b) ((3 + q : Nat) : Int) (-2) k z) (tc : TAB (byteI c) ((5 + q : Nat) : Int) (-3) k z) (ex tt : List UInt8) (he : ex.length = q)
    (hl : tt.length < 4294967296) (p : Int × Int) (hp : p ∈ sizesOf tt.length (f3 a b c)) : HeadOk u0 (headL p.1 p.2 tt.length ++ (ex ++ tt)) 0 := by
  obtain ⟨hm, hf⟩ := List.mem_filter.1 hp
  simp [f3] at hm
  rcases hm with rfl | rfl | rfl
  · simp only [fitB, Bool.or_eq_true, decide_eq_true_eq] at hf
    have hlt : tt.length < 256 := by
      rcases hf with hf | hf
      · omega
      · have : ((tt.length : Int)) < 256 ^ 1 := hf
        omega
    have hs : (byteI (tt.length : Int)).toNat = tt.length := by rw [byteI_nat' _ (by omega) (by omega)]; omega
    have hh : headL a 1 tt.length ++ (ex ++ tt) = byteI a :: byteI tt.length :: (ex ++ tt) := by simp [headL, bigL]
    rw [hh]
    exact okV1 u0 (2 + q) ta (by omega) (by omega) (by rw [hs]; simp; omega)
  · simp only [fitB, Bool.or_eq_true, decide_eq_true_eq] at hf
    have hlt : tt.length < 65536 := by
      rcases hf with hf | hf
      · omega
      · have : ((tt.length : Int)) < 256 ^ 2 := hf
        omega
    have hh : headL b 2 tt.length ++ (ex ++ tt) = byteI b :: byteI ((tt.length : Int) / 256) :: byteI tt.length :: (ex ++ tt) := by simp [headL, bigL]
    rw [hh]
    exact okV2 u0 (3 + q) tt.length tb (by omega) (by omega) (by rw [val2 _ (by omega)]; omega) (by simp; omega)
  · have hh : headL c 4 tt.length ++ (ex ++ tt) = byteI c :: byteI ((tt.length : Int) / 16777216) :: byteI ((tt.length : Int) / 65536) :: byteI ((tt.length : Int) / 256) :: byteI tt.length :: (ex ++ tt) := by simp [headL, bigL]
    rw [hh]
    exact okV3 u0 (5 + q) tt.length tc (by omega) (by omega) (by rw [val4 _ (by omega)]; omega) (by simp; omega)

theorem b217 : byteI 217 = 217 ∧ byteI 218 = 218 ∧ byteI 219 = 219 ∧ byteI 196 = 196 ∧ byteI 197 = 197 ∧ byteI 198 = 198 ∧ byteI 199 = 199 ∧ byteI 200 = 200 ∧ byteI 201 = 201 ∧ byteI 220 = 220 ∧ byteI 221 = 221 ∧ byteI 222 = 222 ∧ byteI 223 = 223 ∧ byteI 204 = 204 ∧ byteI 205 = 205 ∧ byteI 206 = 206 ∧ byteI 207 = 207 ∧ byteI 202 = 202 ∧ byteI 203 = 203 := by decide

theorem strOk (tt hd : List UInt8) (hl : tt.length ≤ 131072) (h : HeadOut tt.length 160 32 (f3 217 218 219) hd) : HeadOk u0 (hd ++ tt) 0 := by
  obtain ⟨b1, b2, b3, -⟩ := b217
  rcases h with ⟨-, h32, rfl⟩ | ⟨p, hp, rfl⟩
  · have hb := orB160 ⟨tt.length, by omega⟩
    exact okF u0 (1 + tt.length) 0 (tabStr _ tt.length (by omega) hb) (by simp; omega) (by omega) (by omega)
  · exact h3Ok u0 217 218 219 1 0 0 (by omega) (by rw [b1]; exact tabP217) (by rw [b2]; exact tabP218) (by rw [b3]; exact tabP219) [] tt rfl (by omega) p hp

theorem binOk (tt hd : List UInt8) (hl : tt.length ≤ 131072) (h : HeadOut tt.length (-1) 0 (f3 196 197 198) hd) : HeadOk u0 (hd ++ tt) 0 := by
  obtain ⟨-, -, -, b1, b2, b3, -⟩ := b217
  rcases h with ⟨h0, -⟩ | ⟨p, hp, rfl⟩
  · omega
  · exact h3Ok u0 196 197 198 2 0 0 (by omega) (by rw [b1]; exact tabP196) (by rw [b2]; exact tabP197) (by rw [b3]; exact tabP198) [] tt rfl (by omega) p hp

theorem extOk (tt hd : List UInt8) (e : Int) (hl : tt.length ≤ 131072) (h : ExtOut tt.length e hd) : HeadOk u0 (hd ++ tt) 0 := by
  obtain ⟨-, -, -, -, -, -, b1, b2, b3, -⟩ := b217
  rcases h with ⟨i, hi, hn, rfl⟩ | ⟨p, hp, rfl⟩
  · rcases (show i = 0 ∨ i = 1 ∨ i = 2 ∨ i = 3 ∨ i = 4 by omega) with rfl | rfl | rfl | rfl | rfl
    · exact okF u0 3 0 tabP212 (by simp; omega) (by omega) (by omega)
    · exact okF u0 4 0 tabP213 (by simp; omega) (by omega) (by omega)
    · exact okF u0 6 0 tabP214 (by simp; omega) (by omega) (by omega)
    · exact okF u0 10 0 tabP215 (by simp; omega) (by omega) (by omega)
    · exact okF u0 18 0 tabP216 (by simp; omega) (by omega) (by omega)
  · rw [List.append_assoc]
    exact h3Ok u0 199 200 201 12 0 1 (by omega) (by rw [b1]; exact tabP199) (by rw [b2]; exact tabP200) (by rw [b3]; exact tabP201) [byteI e] tt rfl (by omega) p hp

theorem intOk (u : Int) (h0 : 0 ≤ u) (h1 : u < 18446744073709551616) (sg : Bool) (out : List UInt8) (h : IntOut u sg out) : HeadOk u0 out 0 := by
  obtain ⟨-, -, -, -, -, -, -, -, -, -, -, -, -, b4, b5, b6, b7, -⟩ := b217
  have sm : ∀ i s : Nat, (i, s) ∈ [(0, 1), (1, 2), (2, 4), (3, 8)] → HeadOk u0 (UInt8.ofNat (208 + i) :: bigL u s) 0 := fun i s hm => by
    simp at hm
    rcases hm with ⟨rfl, rfl⟩ | ⟨rfl, rfl⟩ | ⟨rfl, rfl⟩ | ⟨rfl, rfl⟩
    · exact okF u0 2 0 tabP208 (by simp [bigL_len]) (by omega) (by omega)
    · exact okF u0 3 0 tabP209 (by simp [bigL_len]) (by omega) (by omega)
    · exact okF u0 5 0 tabP210 (by simp [bigL_len]) (by omega) (by omega)
    · exact okF u0 9 0 tabP211 (by simp [bigL_len]) (by omega) (by omega)
  unfold IntOut at h
  split at h
  · rcases h with ⟨hu, rfl⟩ | ⟨i, s, hm, _, rfl⟩
    · exact okF u0 1 0 (tabHigh _ (by rw [byteI_nat]; omega)) rfl (by omega) (by omega)
    · exact sm i s hm
  · rcases h with ⟨hu, rfl⟩ | ⟨p, hp, rfl⟩ | ⟨i, s, hm, _, rfl⟩
    · exact okF u0 1 0 (tabLow _ (by rw [byteI_nat]; omega)) rfl (by omega) (by omega)
    · have := (List.mem_filter.1 hp).1
      simp at this
      rcases this with rfl | rfl | rfl | rfl
      · exact okF u0 2 0 (by rw [b4]; exact tabP204) (by simp [bigL_len]) (by omega) (by omega)
      · exact okF u0 3 0 (by rw [b5]; exact tabP205) (by simp [bigL_len]) (by omega) (by omega)
      · exact okF u0 5 0 (by rw [b6]; exact tabP206) (by simp [bigL_len]) (by omega) (by omega)
      · exact okF u0 9 0 (by rw [b7]; exact tabP207) (by simp [bigL_len]) (by omega) (by omega)
    · exact sm i s hm

theorem arrOk (n : Nat) (hl : n < 65536) (hd : List UInt8) (h : HeadOut n 144 16 (f2 220 221) hd) : HeadOk u0 hd n := by
  obtain ⟨-, -, -, -, -, -, -, -, -, b1, b2, -⟩ := b217
  rcases h with ⟨-, h32, rfl⟩ | ⟨p, hp, rfl⟩
  · have hb := orB144 ⟨n, by omega⟩
    exact okF u0 1 n (tabArr _ n (by omega) hb) rfl (by omega) (by omega)
  · have := (List.mem_filter.1 hp).1
    simp [f2] at this
    rcases this with rfl | rfl
    · rw [show headL 220 2 (n : Int) = [byteI 220, byteI ((n : Int) / 256), byteI n] by simp [headL, bigL]]
      exact okV6 u0 n (by rw [b1]; exact tabP220) (by rw [val2 _ (by omega)]; omega)
    · rw [show headL 221 4 (n : Int) = [byteI 221, byteI ((n : Int) / 16777216), byteI ((n : Int) / 65536), byteI ((n : Int) / 256), byteI n] by simp [headL, bigL]]
      exact okV7 u0 n (by rw [b2]; exact tabP221) (by rw [val4 _ (by omega)]; omega)

theorem mapOk (n : Nat) (hl : n < 65536) (hd : List UInt8) (h : HeadOut n 128 16 (f2 222 223) hd) : HeadOk u0 hd (2 * n) := by
  obtain ⟨-, -, -, -, -, -, -, -, -, -, -, b1, b2, -⟩ := b217
  rcases h with ⟨-, h32, rfl⟩ | ⟨p, hp, rfl⟩
  · have hb := orB128 ⟨n, by omega⟩
    exact okF u0 1 (2 * n) (tabMap _ n (by omega) hb) rfl (by omega) (by omega)
  · have := (List.mem_filter.1 hp).1
    simp [f2] at this
    rcases this with rfl | rfl
    · rw [show headL 222 2 (n : Int) = [byteI 222, byteI ((n : Int) / 256), byteI n] by simp [headL, bigL]]
      exact okV4 u0 n (by rw [b1]; exact tabP222) (by rw [val2 _ (by omega)]; omega)
    · rw [show headL 223 4 (n : Int) = [byteI 223, byteI ((n : Int) / 16777216), byteI ((n : Int) / 65536), byteI ((n : Int) / 256), byteI n] by simp [headL, bigL]]
      exact okV5 u0 n (by rw [b2]; exact tabP223) (by rw [val4 _ (by omega)]; omega)

/-- A value's form: a head, and the forms of the values in it. -/
theorem encHead {k u : Int} {t : ByteArray} {e : Int} {n : Nat} {f : Nat → PackT} {out : List UInt8} {l : Int} (hw : (PackT.mk k u t e n f).wf) (hf : (PackT.mk k u t e n f).fits l = true) (h : Enc (.mk k u t e n f) out) :
    ∃ hd c g, out = hd ++ catM g 0 c ∧ HeadOk u0 hd c ∧ c ≤ n ∧ c ≤ 2000 ∧ ∀ i, i < c → Enc (f i) (g i) := by
  obtain ⟨-, -, -, -, -, -, -, -, -, -, -, -, -, -, -, -, -, b1, b2⟩ := b217
  simp only [PackT.fits, Bool.and_eq_true, Bool.not_eq_true'] at hf
  obtain ⟨⟨h1, h2⟩, h3⟩ := hf
  obtain ⟨l0, k0, k1, kn, n0, t0, e0, e1, ku⟩ := fitsFacts h1 h2
  obtain ⟨v0, v1, _, _, hwf⟩ := hw
  have tl := ba_len t
  have leaf : HeadOk u0 out 0 → ∃ hd c g, out = hd ++ catM g 0 c ∧ HeadOk u0 hd c ∧ c ≤ n ∧ c ≤ 2000 ∧ ∀ i, i < c → Enc (f i) (g i) := fun H => ⟨out, 0, fun _ => [], by simp [catM], H, by omega, by omega, fun i hi => by omega⟩
  rcases h with ⟨rfl, rfl⟩ | ⟨rfl, rfl⟩ | ⟨rfl, h⟩ | ⟨rfl, h⟩ | ⟨rfl, rfl⟩ | ⟨rfl, rfl⟩ | ⟨rfl, hd, h, rfl⟩ | ⟨rfl, hd, h, rfl⟩ | ⟨rfl, hd, h, rfl⟩ | ⟨rfl, hd, g, h, he, rfl⟩ | ⟨rfl, hd, g, h, he, rfl⟩
  · exact leaf (okF u0 1 0 tabP192 rfl (by omega) (by omega))
  · refine leaf ?_
    have := ku rfl
    rcases (show u = 0 ∨ u = 1 by omega) with rfl | rfl
    · exact okF u0 1 0 (by rw [show byteI (194 + 0) = 194 by decide]; exact tabP194) rfl (by omega) (by omega)
    · exact okF u0 1 0 (by rw [show byteI (194 + 1) = 195 by decide]; exact tabP195) rfl (by omega) (by omega)
  · exact leaf (intOk u0 u v0 v1 true out h)
  · exact leaf (intOk u0 u v0 v1 false out h)
  · exact leaf (okF u0 5 0 (by rw [b1]; exact tabP202) (by simp [bigL_len]) (by omega) (by omega))
  · exact leaf (okF u0 9 0 (by rw [b2]; exact tabP203) (by simp [bigL_len]) (by omega) (by omega))
  · exact leaf (strOk u0 _ hd (by omega) (by rw [tl]; exact h))
  · exact leaf (binOk u0 _ hd (by omega) (by rw [tl]; exact h))
  · exact leaf (extOk u0 _ hd e (by omega) (by rw [tl]; exact h))
  · exact ⟨hd, n, g, rfl, arrOk u0 n (by omega) hd h, by omega, n0, he⟩
  · have ev : n % 2 = 0 := by
      have et : ((n : Int)).tmod 2 = ((n % 2 : Nat) : Int) := by rw [Int.tmod_eq_emod_of_nonneg (by omega)]; omega
      simp [bad2, et] at h2
      omega
    have e2 : ((n : Int)).tdiv 2 = ((n / 2 : Nat) : Int) := by rw [Int.tdiv_eq_ediv_of_nonneg (by omega)]; omega
    rw [e2] at h
    have := mapOk u0 (n / 2) (by omega) hd h
    rw [show 2 * (n / 2) = n by omega] at this
    exact ⟨hd, n, g, rfl, this, by omega, n0, he⟩

def SK (dep : Int) (d r : List UInt8) : Prop := ACalls Tryd.prog (gS u0) 40 [.bts d, .lit (.int .i64 dep)] [] (.tup [.bts r, .lit .nilIface]) []
def SE (dep : Int) (d : List UInt8) : Prop := ∃ x t, ACalls Tryd.prog (gS u0) 40 [.bts d, .lit (.int .i64 dep)] [] (.tup [.bts x, .ifc t .dead]) []
def slots (x : List UInt8) (dep ob : Int) : List (Nat × AV) := [(0, .bts x), (1, .lit (.int .i64 dep)), (7, .lit (.int .u64 ob))]

theorem skLoop (dep : Int) (h0 : 0 ≤ dep) (h1 : dep < 100000) (g : Nat → List UInt8) (r : List UInt8) : ∀ k i : Nat, k ≤ 2000 → (∀ j, i ≤ j → j < i + k → ∀ r', r'.length ≤ (catM g (j + 1) (i + k - (j + 1)) ++ r).length → SK u0 (dep + 1) (g j ++ r') r') →
    LoopC Tryd.prog (gS u0) 49 (loopAt Tryd.f40 0) (slots (catM g i k ++ r) dep k) [] (.exit 0) [(0, .bts r)] []
  | 0, i, _, _ => LoopC.exit (slx u0 _ dep (0 : Nat) ⟨by simp, trivial⟩) (by simp)
  | k + 1, i, hk, h => by
    have w : IntKind.u64.wrap (((k + 1 : Nat) : Int) - 1) = k := by rw [wu _ (by omega) (by omega)]; omega
    have wd : IntKind.i64.wrap (dep + 1) = dep + 1 := wrap64 (by omega) (by omega)
    have c := h i (by omega) (by omega) (catM g (i + 1) k ++ r) (by rw [show i + (k + 1) - (i + 1) = k by omega]; exact Nat.le_refl _)
    have st := sln u0 (g i ++ (catM g (i + 1) k ++ r)) (catM g (i + 1) k ++ r) dep ((k + 1 : Nat) : Int) ⟨c, by rw [wd]; exact leAll_refl _, by simp <;> omega, trivial⟩
    rw [w] at st
    have e : catM g i (k + 1) ++ r = g i ++ (catM g (i + 1) k ++ r) := by simp [catM]
    rw [e]
    exact LoopC.step st (skLoop dep h0 h1 g r k (i + 1) (by omega) (fun j q1 q2 => by
      have := h j (by omega) (by omega)
      rw [show i + (k + 1) - (j + 1) = i + 1 + k - (j + 1) by omega] at this
      exact this))

theorem skLoopCut (dep : Int) (h0 : 0 ≤ dep) (h1 : dep < 100000) (g : Nat → List UInt8) : ∀ k i m : Nat, k ≤ 2000 → m < (catM g i k).length →
    (∀ j, i ≤ j → j < i + k → ∀ r', r'.length ≤ (catM g (j + 1) (i + k - (j + 1))).length → SK u0 (dep + 1) (g j ++ r') r') → (∀ j, i ≤ j → j < i + k → ∀ q, q < (g j).length → SE u0 (dep + 1) ((g j).take q)) →
    ∃ x t, LoopC Tryd.prog (gS u0) 49 (loopAt Tryd.f40 0) (slots ((catM g i k).take m) dep k) [] .ret [(4, .bts x), (5, .ifc t .dead)] []
  | 0, i, m, _, hm, _, _ => by simp [catM] at hm
  | k + 1, i, m, hk, hm, h, hc => by
    have w : IntKind.u64.wrap (((k + 1 : Nat) : Int) - 1) = k := by rw [wu _ (by omega) (by omega)]; omega
    have wd : IntKind.i64.wrap (dep + 1) = dep + 1 := wrap64 (by omega) (by omega)
    have e : catM g i (k + 1) = g i ++ catM g (i + 1) k := rfl
    rw [e] at hm ⊢
    by_cases hlt : m < (g i).length
    · obtain ⟨x, t, c⟩ := hc i (by omega) (by omega) m hlt
      rw [List.take_append_of_le_length (by omega)]
      exact ⟨x, t, LoopC.exit (sle u0 ((g i).take m) x dep ((k + 1 : Nat) : Int) t ⟨c, by rw [wd]; exact leAll_refl _, by simp <;> omega, trivial⟩) (by simp)⟩
    · have e2 : (g i ++ catM g (i + 1) k).take m = g i ++ (catM g (i + 1) k).take (m - (g i).length) := by rw [List.take_append, List.take_of_length_le (by omega)]
      rw [e2]
      have c := h i (by omega) (by omega) ((catM g (i + 1) k).take (m - (g i).length)) (by rw [show i + (k + 1) - (i + 1) = k by omega]; simp; omega)
      have st := sln u0 (g i ++ (catM g (i + 1) k).take (m - (g i).length)) ((catM g (i + 1) k).take (m - (g i).length)) dep ((k + 1 : Nat) : Int) ⟨c, by rw [wd]; exact leAll_refl _, by simp <;> omega, trivial⟩
      rw [w] at st
      obtain ⟨x, t, c2⟩ := skLoopCut dep h0 h1 g k (i + 1) (m - (g i).length) (by omega) (by simp at hm; omega) (fun j q1 q2 => by
        have := h j (by omega) (by omega)
        rw [show i + (k + 1) - (j + 1) = i + 1 + k - (j + 1) by omega] at this
        exact this) (fun j q1 q2 => hc j (by omega) (by omega))
      exact ⟨x, t, LoopC.step st c2⟩

theorem catM_le (g : Nat → List UInt8) : ∀ (m i j : Nat), i ≤ j → j < i + m → (g j).length + (catM g (j + 1) (i + m - (j + 1))).length ≤ (catM g i m).length
  | 0, i, j, h1, h2 => by omega
  | m + 1, i, j, h1, h2 => by
    simp only [catM, List.length_append]
    by_cases hj : j = i
    · subst hj; rw [show j + (m + 1) - (j + 1) = m by omega]; omega
    · have := catM_le g m (i + 1) j (by omega) (by omega)
      rw [show i + 1 + m - (j + 1) = i + (m + 1) - (j + 1) by omega] at this
      omega

/-- A head and the values behind it. -/
theorem skHead (dep : Int) (h0 : 0 ≤ dep) (h1 : dep < 100000) (hd : List UInt8) (c : Nat) (g : Nat → List UInt8) (H : HeadOk u0 hd c) (hc : c ≤ 2000)
    (hk : ∀ j, j < c → (∀ r', (g j ++ r').length ≤ 4611686018427387904 → SK u0 (dep + 1) (g j ++ r') r') ∧ ∀ q, q < (g j).length → SE u0 (dep + 1) ((g j).take q)) (hl : (hd ++ catM g 0 c).length ≤ 4611686018427387904) :
    (∀ r, (hd ++ catM g 0 c ++ r).length ≤ 4611686018427387904 → SK u0 dep (hd ++ catM g 0 c ++ r) r) ∧ ∀ m, m < (hd ++ catM g 0 c).length → SE u0 dep ((hd ++ catM g 0 c).take m) := by
  have nd : decide (dep ≥ (100000 : Int)) = false := by simp; omega
  refine ⟨fun r hr => ?_, fun m hm => ?_⟩
  · have lp := (skLoop u0 dep h0 h1 g r c 0 hc (fun j q1 q2 r' hr' => (hk j (by omega)).1 r' (by
      have := catM_le g c 0 j (by omega) (by omega)
      rw [show 0 + c - (j + 1) = c - (j + 1) by omega] at this hr'
      simp at hr hr' ⊢
      omega))).code
    rw [List.append_assoc] at hr ⊢
    have gz := H.1 (catM g 0 c ++ r)
    have nl : decide (IntKind.u64.wrap (((hd ++ (catM g 0 c ++ r)).length : Nat) : Int) < (hd.length : Int)) = false := by
      rw [wu _ (by omega) (by omega)]
      simp <;> omega
    exact sd3 u0 _ (catM g 0 c ++ r) r dep hd.length c ⟨lp, ⟨by simp only [Int.toNat_natCast, List.take_length, List.drop_left]; exact Le.refl _, Le.refl _, Le.refl _, trivial⟩, by simp <;> omega, nl, gz, nd, trivial⟩
  · by_cases hlt : m < hd.length
    · rw [List.take_append_of_le_length (by omega)]
      rcases H.2 m hlt with ⟨t, ht⟩ | ⟨sz, ob, hz, hs⟩
      · exact ⟨_, _, sd1 u0 _ dep t ⟨ht, nd, trivial⟩⟩
      · refine ⟨_, _, sd2 u0 _ dep sz ob ⟨?_, hz, nd, trivial⟩⟩
        rw [wu _ (by omega) (by simp at hl ⊢; omega)]
        simp
        omega
    · have e2 : (hd ++ catM g 0 c).take m = hd ++ (catM g 0 c).take (m - hd.length) := by rw [List.take_append, List.take_of_length_le (by omega)]
      rw [e2]
      obtain ⟨x, t, lp⟩ := skLoopCut u0 dep h0 h1 g c 0 (m - hd.length) hc (by simp at hm; omega) (fun j q1 q2 r' hr' => (hk j (by omega)).1 r' (by
        have := catM_le g c 0 j (by omega) (by omega)
        rw [show 0 + c - (j + 1) = c - (j + 1) by omega] at this hr'
        simp at hl hr' ⊢
        omega)) (fun j q1 q2 => (hk j (by omega)).2)
      have gz := H.1 ((catM g 0 c).take (m - hd.length))
      have nl : decide (IntKind.u64.wrap (((hd ++ (catM g 0 c).take (m - hd.length)).length : Nat) : Int) < (hd.length : Int)) = false := by
        rw [wu _ (by omega) (by simp at hl ⊢; omega)]
        simp <;> omega
      exact ⟨x, t, sd4 u0 _ ((catM g 0 c).take (m - hd.length)) x dep hd.length c t ⟨lp.code, ⟨by simp only [Int.toNat_natCast, List.take_length, List.drop_left]; exact Le.refl _, Le.refl _, Le.refl _, trivial⟩, by simp; omega, nl, gz, nd, trivial⟩⟩

theorem skipP : ∀ (p : PackT), p.wf → ∀ l : Int, p.fits l = true → ∀ out, Enc p out → out.length ≤ 4611686018427387904 → ∀ dep : Int, 0 ≤ dep → dep + l ≤ 100000 →
    (∀ r, (out ++ r).length ≤ 4611686018427387904 → SK u0 dep (out ++ r) r) ∧ ∀ m, m < out.length → SE u0 dep (out.take m) := by
  intro p
  induction p with
  | nul =>
    intro _ l hf out ho hl dep h0 h1
    obtain rfl : out = [192] := ho
    have l0 : 0 < l := by
      simp only [PackT.fits, Bool.and_eq_true, Bool.not_eq_true'] at hf
      exact (fitsFacts hf.1 hf.2).1
    exact skHead u0 dep h0 (by omega) [192] 0 (fun _ => []) (okF u0 1 0 tabP192 rfl (by omega) (by omega)) (by omega) (fun j hj => by omega) (by simp [catM])
  | mk k u t e n f ih =>
    intro hw l hf out ho hl dep h0 h1
    obtain ⟨hd, c, g, rfl, H, hcn, hc, he⟩ := encHead u0 hw hf ho
    have hf' := hf
    simp only [PackT.fits, Bool.and_eq_true, Bool.not_eq_true'] at hf
    have l0 := (fitsFacts hf.1.1 hf.1.2).1
    exact skHead u0 dep h0 (by omega) hd c g H hc (fun j hj => ih j (hw.2.2.2.2 j (by omega)) (l - 1) (allN_get n 0 hf.2 j (by omega) (by omega)) (g j) (he j hj) (by
      have := catM_le g c 0 j (by omega) (by omega)
      simp at hl
      omega) (dep + 1) (by omega) (by omega)) hl
end
end Go.Ax
