/-
  Values of MessagePack, read: the kinds of first bytes, errors, what a law of reading is given.
-/
import Derived.Test.YtdfefemnlimeeaaDoorGtL
import Derived.Test.YtdfefemnlimeeaaDoorGtM
set_option linter.unusedVariables false
set_option linter.unusedSimpArgs false
set_option maxRecDepth 100000
namespace Go.Ax
open Go.Proofs

/-! ### What a first byte tells -/
def bsAV (a b c d : Int) : AV := .agg [.lit (.int .u8 a), .lit (.int .i8 b), .lit (.int .u8 c), .lit (.int .u8 d)]
theorem tabP192 : ACalls Tryd.prog noG 60 [.lit (.int .u8 192)] [] (bsAV 1 (0) 10 0) [] :=
  ACalls_ev (orc := [.auto, .fin []]) (r := (bsAV 1 (0) 10 0, [], [4 ≤ 4])) (by kernel_rfl) Tryd.func60 (by kernel_rfl) (by kernel_rfl) ⟨Nat.le_refl _, trivial⟩
theorem tabP194 : ACalls Tryd.prog noG 60 [.lit (.int .u8 194)] [] (bsAV 1 (0) 7 0) [] :=
  ACalls_ev (orc := [.auto, .fin []]) (r := (bsAV 1 (0) 7 0, [], [4 ≤ 4])) (by kernel_rfl) Tryd.func60 (by kernel_rfl) (by kernel_rfl) ⟨Nat.le_refl _, trivial⟩
theorem tabP195 : ACalls Tryd.prog noG 60 [.lit (.int .u8 195)] [] (bsAV 1 (0) 7 0) [] :=
  ACalls_ev (orc := [.auto, .fin []]) (r := (bsAV 1 (0) 7 0, [], [4 ≤ 4])) (by kernel_rfl) Tryd.func60 (by kernel_rfl) (by kernel_rfl) ⟨Nat.le_refl _, trivial⟩
theorem tabP196 : ACalls Tryd.prog noG 60 [.lit (.int .u8 196)] [] (bsAV 2 (-1) 2 0) [] :=
  ACalls_ev (orc := [.auto, .fin []]) (r := (bsAV 2 (-1) 2 0, [], [4 ≤ 4])) (by kernel_rfl) Tryd.func60 (by kernel_rfl) (by kernel_rfl) ⟨Nat.le_refl _, trivial⟩
theorem tabP197 : ACalls Tryd.prog noG 60 [.lit (.int .u8 197)] [] (bsAV 3 (-2) 2 0) [] :=
  ACalls_ev (orc := [.auto, .fin []]) (r := (bsAV 3 (-2) 2 0, [], [4 ≤ 4])) (by kernel_rfl) Tryd.func60 (by kernel_rfl) (by kernel_rfl) ⟨Nat.le_refl _, trivial⟩
theorem tabP198 : ACalls Tryd.prog noG 60 [.lit (.int .u8 198)] [] (bsAV 5 (-3) 2 0) [] :=
  ACalls_ev (orc := [.auto, .fin []]) (r := (bsAV 5 (-3) 2 0, [], [4 ≤ 4])) (by kernel_rfl) Tryd.func60 (by kernel_rfl) (by kernel_rfl) ⟨Nat.le_refl _, trivial⟩
theorem tabP199 : ACalls Tryd.prog noG 60 [.lit (.int .u8 199)] [] (bsAV 3 (-1) 12 0) [] :=
  ACalls_ev (orc := [.auto, .fin []]) (r := (bsAV 3 (-1) 12 0, [], [4 ≤ 4])) (by kernel_rfl) Tryd.func60 (by kernel_rfl) (by kernel_rfl) ⟨Nat.le_refl _, trivial⟩
theorem tabP200 : ACalls Tryd.prog noG 60 [.lit (.int .u8 200)] [] (bsAV 4 (-2) 12 0) [] :=
  ACalls_ev (orc := [.auto, .fin []]) (r := (bsAV 4 (-2) 12 0, [], [4 ≤ 4])) (by kernel_rfl) Tryd.func60 (by kernel_rfl) (by kernel_rfl) ⟨Nat.le_refl _, trivial⟩
theorem tabP201 : ACalls Tryd.prog noG 60 [.lit (.int .u8 201)] [] (bsAV 6 (-3) 12 0) [] :=
  ACalls_ev (orc := [.auto, .fin []]) (r := (bsAV 6 (-3) 12 0, [], [4 ≤ 4])) (by kernel_rfl) Tryd.func60 (by kernel_rfl) (by kernel_rfl) ⟨Nat.le_refl _, trivial⟩
theorem tabP202 : ACalls Tryd.prog noG 60 [.lit (.int .u8 202)] [] (bsAV 5 (0) 6 0) [] :=
  ACalls_ev (orc := [.auto, .fin []]) (r := (bsAV 5 (0) 6 0, [], [4 ≤ 4])) (by kernel_rfl) Tryd.func60 (by kernel_rfl) (by kernel_rfl) ⟨Nat.le_refl _, trivial⟩
theorem tabP203 : ACalls Tryd.prog noG 60 [.lit (.int .u8 203)] [] (bsAV 9 (0) 5 0) [] :=
  ACalls_ev (orc := [.auto, .fin []]) (r := (bsAV 9 (0) 5 0, [], [4 ≤ 4])) (by kernel_rfl) Tryd.func60 (by kernel_rfl) (by kernel_rfl) ⟨Nat.le_refl _, trivial⟩
theorem tabP204 : ACalls Tryd.prog noG 60 [.lit (.int .u8 204)] [] (bsAV 2 (0) 9 0) [] :=
  ACalls_ev (orc := [.auto, .fin []]) (r := (bsAV 2 (0) 9 0, [], [4 ≤ 4])) (by kernel_rfl) Tryd.func60 (by kernel_rfl) (by kernel_rfl) ⟨Nat.le_refl _, trivial⟩
theorem tabP205 : ACalls Tryd.prog noG 60 [.lit (.int .u8 205)] [] (bsAV 3 (0) 9 0) [] :=
  ACalls_ev (orc := [.auto, .fin []]) (r := (bsAV 3 (0) 9 0, [], [4 ≤ 4])) (by kernel_rfl) Tryd.func60 (by kernel_rfl) (by kernel_rfl) ⟨Nat.le_refl _, trivial⟩
theorem tabP206 : ACalls Tryd.prog noG 60 [.lit (.int .u8 206)] [] (bsAV 5 (0) 9 0) [] :=
  ACalls_ev (orc := [.auto, .fin []]) (r := (bsAV 5 (0) 9 0, [], [4 ≤ 4])) (by kernel_rfl) Tryd.func60 (by kernel_rfl) (by kernel_rfl) ⟨Nat.le_refl _, trivial⟩
theorem tabP207 : ACalls Tryd.prog noG 60 [.lit (.int .u8 207)] [] (bsAV 9 (0) 9 0) [] :=
  ACalls_ev (orc := [.auto, .fin []]) (r := (bsAV 9 (0) 9 0, [], [4 ≤ 4])) (by kernel_rfl) Tryd.func60 (by kernel_rfl) (by kernel_rfl) ⟨Nat.le_refl _, trivial⟩
theorem tabP208 : ACalls Tryd.prog noG 60 [.lit (.int .u8 208)] [] (bsAV 2 (0) 8 0) [] :=
  ACalls_ev (orc := [.auto, .fin []]) (r := (bsAV 2 (0) 8 0, [], [4 ≤ 4])) (by kernel_rfl) Tryd.func60 (by kernel_rfl) (by kernel_rfl) ⟨Nat.le_refl _, trivial⟩
theorem tabP209 : ACalls Tryd.prog noG 60 [.lit (.int .u8 209)] [] (bsAV 3 (0) 8 0) [] :=
  ACalls_ev (orc := [.auto, .fin []]) (r := (bsAV 3 (0) 8 0, [], [4 ≤ 4])) (by kernel_rfl) Tryd.func60 (by kernel_rfl) (by kernel_rfl) ⟨Nat.le_refl _, trivial⟩
theorem tabP210 : ACalls Tryd.prog noG 60 [.lit (.int .u8 210)] [] (bsAV 5 (0) 8 0) [] :=
  ACalls_ev (orc := [.auto, .fin []]) (r := (bsAV 5 (0) 8 0, [], [4 ≤ 4])) (by kernel_rfl) Tryd.func60 (by kernel_rfl) (by kernel_rfl) ⟨Nat.le_refl _, trivial⟩
theorem tabP211 : ACalls Tryd.prog noG 60 [.lit (.int .u8 211)] [] (bsAV 9 (0) 8 0) [] :=
  ACalls_ev (orc := [.auto, .fin []]) (r := (bsAV 9 (0) 8 0, [], [4 ≤ 4])) (by kernel_rfl) Tryd.func60 (by kernel_rfl) (by kernel_rfl) ⟨Nat.le_refl _, trivial⟩
theorem tabP212 : ACalls Tryd.prog noG 60 [.lit (.int .u8 212)] [] (bsAV 3 (0) 12 0) [] :=
  ACalls_ev (orc := [.auto, .fin []]) (r := (bsAV 3 (0) 12 0, [], [4 ≤ 4])) (by kernel_rfl) Tryd.func60 (by kernel_rfl) (by kernel_rfl) ⟨Nat.le_refl _, trivial⟩
theorem tabP213 : ACalls Tryd.prog noG 60 [.lit (.int .u8 213)] [] (bsAV 4 (0) 12 0) [] :=
  ACalls_ev (orc := [.auto, .fin []]) (r := (bsAV 4 (0) 12 0, [], [4 ≤ 4])) (by kernel_rfl) Tryd.func60 (by kernel_rfl) (by kernel_rfl) ⟨Nat.le_refl _, trivial⟩
theorem tabP214 : ACalls Tryd.prog noG 60 [.lit (.int .u8 214)] [] (bsAV 6 (0) 12 0) [] :=
  ACalls_ev (orc := [.auto, .fin []]) (r := (bsAV 6 (0) 12 0, [], [4 ≤ 4])) (by kernel_rfl) Tryd.func60 (by kernel_rfl) (by kernel_rfl) ⟨Nat.le_refl _, trivial⟩
theorem tabP215 : ACalls Tryd.prog noG 60 [.lit (.int .u8 215)] [] (bsAV 10 (0) 12 0) [] :=
  ACalls_ev (orc := [.auto, .fin []]) (r := (bsAV 10 (0) 12 0, [], [4 ≤ 4])) (by kernel_rfl) Tryd.func60 (by kernel_rfl) (by kernel_rfl) ⟨Nat.le_refl _, trivial⟩
theorem tabP216 : ACalls Tryd.prog noG 60 [.lit (.int .u8 216)] [] (bsAV 18 (0) 12 0) [] :=
  ACalls_ev (orc := [.auto, .fin []]) (r := (bsAV 18 (0) 12 0, [], [4 ≤ 4])) (by kernel_rfl) Tryd.func60 (by kernel_rfl) (by kernel_rfl) ⟨Nat.le_refl _, trivial⟩
theorem tabP217 : ACalls Tryd.prog noG 60 [.lit (.int .u8 217)] [] (bsAV 2 (-1) 1 0) [] :=
  ACalls_ev (orc := [.auto, .fin []]) (r := (bsAV 2 (-1) 1 0, [], [4 ≤ 4])) (by kernel_rfl) Tryd.func60 (by kernel_rfl) (by kernel_rfl) ⟨Nat.le_refl _, trivial⟩
theorem tabP218 : ACalls Tryd.prog noG 60 [.lit (.int .u8 218)] [] (bsAV 3 (-2) 1 0) [] :=
  ACalls_ev (orc := [.auto, .fin []]) (r := (bsAV 3 (-2) 1 0, [], [4 ≤ 4])) (by kernel_rfl) Tryd.func60 (by kernel_rfl) (by kernel_rfl) ⟨Nat.le_refl _, trivial⟩
theorem tabP219 : ACalls Tryd.prog noG 60 [.lit (.int .u8 219)] [] (bsAV 5 (-3) 1 0) [] :=
  ACalls_ev (orc := [.auto, .fin []]) (r := (bsAV 5 (-3) 1 0, [], [4 ≤ 4])) (by kernel_rfl) Tryd.func60 (by kernel_rfl) (by kernel_rfl) ⟨Nat.le_refl _, trivial⟩
theorem tabP220 : ACalls Tryd.prog noG 60 [.lit (.int .u8 220)] [] (bsAV 3 (-6) 4 0) [] :=
  ACalls_ev (orc := [.auto, .fin []]) (r := (bsAV 3 (-6) 4 0, [], [4 ≤ 4])) (by kernel_rfl) Tryd.func60 (by kernel_rfl) (by kernel_rfl) ⟨Nat.le_refl _, trivial⟩
theorem tabP221 : ACalls Tryd.prog noG 60 [.lit (.int .u8 221)] [] (bsAV 5 (-7) 4 0) [] :=
  ACalls_ev (orc := [.auto, .fin []]) (r := (bsAV 5 (-7) 4 0, [], [4 ≤ 4])) (by kernel_rfl) Tryd.func60 (by kernel_rfl) (by kernel_rfl) ⟨Nat.le_refl _, trivial⟩
theorem tabP222 : ACalls Tryd.prog noG 60 [.lit (.int .u8 222)] [] (bsAV 3 (-4) 3 0) [] :=
  ACalls_ev (orc := [.auto, .fin []]) (r := (bsAV 3 (-4) 3 0, [], [4 ≤ 4])) (by kernel_rfl) Tryd.func60 (by kernel_rfl) (by kernel_rfl) ⟨Nat.le_refl _, trivial⟩
theorem tabP223 : ACalls Tryd.prog noG 60 [.lit (.int .u8 223)] [] (bsAV 5 (-5) 3 0) [] :=
  ACalls_ev (orc := [.auto, .fin []]) (r := (bsAV 5 (-5) 3 0, [], [4 ≤ 4])) (by kernel_rfl) Tryd.func60 (by kernel_rfl) (by kernel_rfl) ⟨Nat.le_refl _, trivial⟩

theorem bspecC (n : Nat) (h : n < 256) : ∃ a b c d, ACalls Tryd.prog noG 60 [.lit (.int .u8 (n : Int))] [] (bsAV a b c d) [] := by
  rcases (show n < 128 ∨ (128 ≤ n ∧ n < 144) ∨ (144 ≤ n ∧ n < 160) ∨ (160 ≤ n ∧ n < 192) ∨ 224 ≤ n ∨ n = 193 ∨ n = 192 ∨ n = 194 ∨ n = 195 ∨ n = 196 ∨ n = 197 ∨ n = 198 ∨ n = 199 ∨ n = 200 ∨ n = 201 ∨ n = 202 ∨ n = 203 ∨ n = 204 ∨ n = 205 ∨ n = 206 ∨ n = 207 ∨ n = 208 ∨ n = 209 ∨ n = 210 ∨ n = 211 ∨ n = 212 ∨ n = 213 ∨ n = 214 ∨ n = 215 ∨ n = 216 ∨ n = 217 ∨ n = 218 ∨ n = 219 ∨ n = 220 ∨ n = 221 ∨ n = 222 ∨ n = 223 by omega) with hr | hr | hr | hr | hr | rfl | rfl | rfl | rfl | rfl | rfl | rfl | rfl | rfl | rfl | rfl | rfl | rfl | rfl | rfl | rfl | rfl | rfl | rfl | rfl | rfl | rfl | rfl | rfl | rfl | rfl | rfl | rfl | rfl | rfl | rfl | rfl
  · exact ⟨_, _, _, _, cbA n 0 (by simp only [AllP]; repeat' (first | with_reducible apply And.intro | exact trivial | assumption | (simp; done) | (simp; omega)))⟩
  · have c := rf61 n trivial
    exact ⟨_, _, _, _, cbC n _ (by simp only [AllP]; repeat' (first | with_reducible apply And.intro | exact trivial | assumption | (simp; done) | (simp; omega)))⟩
  · have c := rf62 n trivial
    exact ⟨_, _, _, _, cbD n _ (by simp only [AllP]; repeat' (first | with_reducible apply And.intro | exact trivial | assumption | (simp; done) | (simp; omega)))⟩
  · have c := rf49 n trivial
    exact ⟨_, _, _, _, cbB n _ (by simp only [AllP]; repeat' (first | with_reducible apply And.intro | exact trivial | assumption | (simp; done) | (simp; omega)))⟩
  · have w16 : IntKind.u16.wrap (n : Int) = n := by rw [wrapU16]; omega
    exact ⟨_, _, _, _, cbE n 0 (by simp only [AllP]; repeat' (first | with_reducible apply And.intro | exact trivial | assumption | (simp; done) | (simp; omega) | (simp [w16]; omega)))⟩
  · exact ⟨_, _, _, _, cbF trivial⟩
  · exact ⟨_, _, _, _, tabP192⟩
  · exact ⟨_, _, _, _, tabP194⟩
  · exact ⟨_, _, _, _, tabP195⟩
  · exact ⟨_, _, _, _, tabP196⟩
  · exact ⟨_, _, _, _, tabP197⟩
  · exact ⟨_, _, _, _, tabP198⟩
  · exact ⟨_, _, _, _, tabP199⟩
  · exact ⟨_, _, _, _, tabP200⟩
  · exact ⟨_, _, _, _, tabP201⟩
  · exact ⟨_, _, _, _, tabP202⟩
  · exact ⟨_, _, _, _, tabP203⟩
  · exact ⟨_, _, _, _, tabP204⟩
  · exact ⟨_, _, _, _, tabP205⟩
  · exact ⟨_, _, _, _, tabP206⟩
  · exact ⟨_, _, _, _, tabP207⟩
  · exact ⟨_, _, _, _, tabP208⟩
  · exact ⟨_, _, _, _, tabP209⟩
  · exact ⟨_, _, _, _, tabP210⟩
  · exact ⟨_, _, _, _, tabP211⟩
  · exact ⟨_, _, _, _, tabP212⟩
  · exact ⟨_, _, _, _, tabP213⟩
  · exact ⟨_, _, _, _, tabP214⟩
  · exact ⟨_, _, _, _, tabP215⟩
  · exact ⟨_, _, _, _, tabP216⟩
  · exact ⟨_, _, _, _, tabP217⟩
  · exact ⟨_, _, _, _, tabP218⟩
  · exact ⟨_, _, _, _, tabP219⟩
  · exact ⟨_, _, _, _, tabP220⟩
  · exact ⟨_, _, _, _, tabP221⟩
  · exact ⟨_, _, _, _, tabP222⟩
  · exact ⟨_, _, _, _, tabP223⟩

/-- An error. -/
def errAV (t : Nat) : AV := .ifc t .dead

theorem Le_ifc (t : TypeId) (v : AV) : Le (.ifc t v) (.ifc t .dead) := fun ρ h O w x hx => by
  cases hx with
  | dr hd => cases hd with | ifc h1 => exact .ifc (.dr (.dead _))
  | ifc h1 => exact .ifc (.dr (.dead _))
theorem Le_iface (t : TypeId) (v : Value) : Le (.lit (.iface t v)) (.ifc t .dead) := fun ρ h O w x hx => by
  rw [VR_lit hx]; exact .ifc (.dr (.dead _))

theorem badP (G : Env) (w : Int) (b : UInt8) : ∃ t, ACalls Tryd.prog G 32 [.lit (.int .u8 w), .lit (.int .u8 (b.toNat : Int))] [] (errAV t) [] := by
  obtain ⟨a, x, c, d, h⟩ := bspecC b.toNat b.toNat_lt
  have h2 := g59 b.toNat a x c d ⟨h, trivial⟩
  have h3 := g44 b.toNat a x c d ⟨h2, trivial⟩
  cases hc : (c == (0 : Int)) with
  | true => exact ⟨_, ((bp0 w b.toNat c ⟨hc, h3, trivial⟩).le (leAll_refl _) (Le_iface _ _) rfl).anyG G⟩
  | false => exact ⟨_, ((bp1 w b.toNat c ⟨hc, h3, trivial⟩).le (leAll_refl _) (Le_ifc _ _) rfl).anyG G⟩

/-! ### The first byte of a value -/
def Lead (k : Int) (b : Nat) : Prop :=
  (k = 0 ∧ b = 192) ∨ (k = 1 ∧ (b = 194 ∨ b = 195)) ∨ ((k = 2 ∨ k = 3) ∧ (b < 128 ∨ 224 ≤ b ∨ (204 ≤ b ∧ b ≤ 211))) ∨ (k = 4 ∧ b = 202) ∨ (k = 5 ∧ b = 203) ∨
  (k = 6 ∧ ((160 ≤ b ∧ b < 192) ∨ b = 217 ∨ b = 218 ∨ b = 219)) ∨ (k = 7 ∧ (b = 196 ∨ b = 197 ∨ b = 198)) ∨ (k = 8 ∧ ((144 ≤ b ∧ b < 160) ∨ b = 220 ∨ b = 221)) ∨
  (k = 9 ∧ ((128 ≤ b ∧ b < 144) ∨ b = 222 ∨ b = 223)) ∨ (k = 10 ∧ (b = 199 ∨ b = 200 ∨ b = 201 ∨ (212 ≤ b ∧ b ≤ 216)))

theorem byteI_nat' (x : Int) (h0 : 0 ≤ x) (h : x < 256) : (byteI x).toNat = x.toNat := by rw [byteI_nat]; congr 1; omega

theorem orB160 : ∀ n : Fin 32, (orB 160 (n.val : Int)).toNat = 160 + n.val := by decide
theorem orB144 : ∀ n : Fin 16, (orB 144 (n.val : Int)).toNat = 144 + n.val := by decide
theorem orB128 : ∀ n : Fin 16, (orB 128 (n.val : Int)).toNat = 128 + n.val := by decide

theorem intLead {u : Int} {sg : Bool} {out : List UInt8} (h0 : 0 ≤ u) (h1 : u < 18446744073709551616) (h : IntOut u sg out) : ∃ b r, out = b :: r ∧ (b.toNat < 128 ∨ 224 ≤ b.toNat ∨ (204 ≤ b.toNat ∧ b.toNat ≤ 211)) := by
  have small : ∀ i s : Nat, (i, s) ∈ [(0, 1), (1, 2), (2, 4), (3, 8)] → i ≤ 3 := fun i s hm => by simp at hm; omega
  have c : ∀ i : Nat, i ≤ 3 → (UInt8.ofNat (208 + i)).toNat = 208 + i := fun i hi => by rw [UInt8.toNat_ofNat']; omega
  unfold IntOut at h
  split at h
  · rcases h with ⟨hu, rfl⟩ | ⟨i, s, hm, _, rfl⟩
    · exact ⟨_, _, rfl, by rw [byteI_nat]; omega⟩
    · exact ⟨_, _, rfl, by rw [c i (small i s hm)]; have := small i s hm; omega⟩
  · rcases h with ⟨hu, rfl⟩ | ⟨p, hp, rfl⟩ | ⟨i, s, hm, _, rfl⟩
    · exact ⟨_, _, rfl, by rw [byteI_nat]; omega⟩
    · refine ⟨_, _, rfl, ?_⟩
      have := (List.mem_filter.1 hp).1
      simp at this
      rcases this with rfl | rfl | rfl | rfl <;> simp only [] <;> rw [byteI_nat' _ (by omega) (by omega)] <;> omega
    · exact ⟨_, _, rfl, by rw [c i (small i s hm)]; have := small i s hm; omega⟩

theorem headLead {n fx un : Int} {l : List (Int × Int)} {out : List UInt8} (R : Nat → Prop) (h0 : 0 ≤ n) (h : HeadOut n fx un l out) (hf : 0 ≤ fx → n < un → R (orB fx n).toNat) (hl : ∀ p ∈ l, R (byteI p.1).toNat) : ∃ b r, out = b :: r ∧ R b.toNat := by
  rcases h with ⟨q1, q2, rfl⟩ | ⟨p, hp, rfl⟩
  · exact ⟨_, _, rfl, hf q1 q2⟩
  · exact ⟨_, _, rfl, hl p (List.mem_filter.1 hp).1⟩

theorem extLead {n e : Int} {out : List UInt8} (h : ExtOut n e out) : ∃ b r, out = b :: r ∧ (b.toNat = 199 ∨ b.toNat = 200 ∨ b.toNat = 201 ∨ (212 ≤ b.toNat ∧ b.toNat ≤ 216)) := by
  rcases h with ⟨i, hi, _, rfl⟩ | ⟨p, hp, rfl⟩
  · exact ⟨_, _, rfl, by rw [UInt8.toNat_ofNat']; omega⟩
  · refine ⟨_, _, rfl, ?_⟩
    have := (List.mem_filter.1 hp).1
    simp at this
    rcases this with rfl | rfl | rfl <;> simp only [] <;> rw [byteI_nat' _ (by omega) (by omega)] <;> omega

theorem encLead : ∀ (p : PackT) (out : List UInt8) (l : Int), p.wf → p.fits l = true → Enc p out → ∃ b r, out = b :: r ∧ Lead p.kind b.toNat
  | .nul, out, l, _, _, h => ⟨192, [], h, .inl ⟨rfl, rfl⟩⟩
  | .mk k u t e n f, out, l, hw, hf, h => by
    simp only [PackT.fits, Bool.and_eq_true, Bool.not_eq_true'] at hf
    obtain ⟨⟨h1, h2⟩, h3⟩ := hf
    obtain ⟨l0, k0, k1, kn, n0, t0, e0, e1, ku⟩ := fitsFacts h1 h2
    obtain ⟨u0, u1, _, _, hwf⟩ := hw
    have o160 : ∀ m : Int, 0 ≤ m → m < 32 → 160 ≤ (orB 160 m).toNat ∧ (orB 160 m).toNat < 192 := fun m q1 q2 => by
      have := orB160 ⟨m.toNat, by omega⟩
      simp only [Int.toNat_of_nonneg q1] at this
      omega
    have o144 : ∀ m : Int, 0 ≤ m → m < 16 → 144 ≤ (orB 144 m).toNat ∧ (orB 144 m).toNat < 160 := fun m q1 q2 => by
      have := orB144 ⟨m.toNat, by omega⟩
      simp only [Int.toNat_of_nonneg q1] at this
      omega
    have o128 : ∀ m : Int, 0 ≤ m → m < 16 → 128 ≤ (orB 128 m).toNat ∧ (orB 128 m).toNat < 144 := fun m q1 q2 => by
      have := orB128 ⟨m.toNat, by omega⟩
      simp only [Int.toNat_of_nonneg q1] at this
      omega
    show ∃ b r, out = b :: r ∧ Lead k b.toNat
    rcases h with ⟨rfl, rfl⟩ | ⟨rfl, rfl⟩ | ⟨rfl, h⟩ | ⟨rfl, h⟩ | ⟨rfl, rfl⟩ | ⟨rfl, rfl⟩ | ⟨rfl, hd, h, rfl⟩ | ⟨rfl, hd, h, rfl⟩ | ⟨rfl, hd, h, rfl⟩ | ⟨rfl, hd, g, h, _, rfl⟩ | ⟨rfl, hd, g, h, _, rfl⟩
    · exact ⟨_, _, rfl, .inl ⟨rfl, rfl⟩⟩
    · refine ⟨_, _, rfl, .inr (.inl ⟨rfl, ?_⟩)⟩
      have := ku rfl
      rw [byteI_nat' _ (by omega) (by omega)]
      omega
    · obtain ⟨b, r, e1, e2⟩ := intLead u0 u1 h
      exact ⟨b, r, e1, .inr (.inr (.inl ⟨.inl rfl, e2⟩))⟩
    · obtain ⟨b, r, e1, e2⟩ := intLead u0 u1 h
      exact ⟨b, r, e1, .inr (.inr (.inl ⟨.inr rfl, e2⟩))⟩
    · exact ⟨_, _, rfl, .inr (.inr (.inr (.inl ⟨rfl, by decide⟩)))⟩
    · exact ⟨_, _, rfl, .inr (.inr (.inr (.inr (.inl ⟨rfl, by decide⟩))))⟩
    · obtain ⟨b, r, e1, e2⟩ := headLead (fun b => (160 ≤ b ∧ b < 192) ∨ b = 217 ∨ b = 218 ∨ b = 219) (by omega) h (fun q1 q2 => .inl (o160 _ (by omega) q2)) (by simp only [f3]; decide)
      exact ⟨b, r ++ t.data.toList, by rw [e1]; rfl, .inr (.inr (.inr (.inr (.inr (.inl ⟨rfl, e2⟩)))))⟩
    · obtain ⟨b, r, e1, e2⟩ := headLead (fun b => b = 196 ∨ b = 197 ∨ b = 198) (by omega) h (fun q1 q2 => absurd q1 (by decide)) (by simp only [f3]; decide)
      exact ⟨b, r ++ t.data.toList, by rw [e1]; rfl, .inr (.inr (.inr (.inr (.inr (.inr (.inl ⟨rfl, e2⟩))))))⟩
    · obtain ⟨b, r, e1, e2⟩ := extLead h
      exact ⟨b, r ++ t.data.toList, by rw [e1]; rfl, .inr (.inr (.inr (.inr (.inr (.inr (.inr (.inr (.inr ⟨rfl, e2⟩))))))))⟩
    · obtain ⟨b, r, e1, e2⟩ := headLead (fun b => (144 ≤ b ∧ b < 160) ∨ b = 220 ∨ b = 221) (by omega) h (fun q1 q2 => .inl (o144 _ (by omega) q2)) (by simp only [f2]; decide)
      exact ⟨b, r ++ catM g 0 n, by rw [e1]; rfl, .inr (.inr (.inr (.inr (.inr (.inr (.inr (.inl ⟨rfl, e2⟩)))))))⟩
    · obtain ⟨b, r, e1, e2⟩ := headLead (fun b => (128 ≤ b ∧ b < 144) ∨ b = 222 ∨ b = 223) (by have := Int.tdiv_nonneg (show (0 : Int) ≤ n by omega) (show (0 : Int) ≤ 2 by decide); omega) h (fun q1 q2 => .inl (o128 _ (Int.tdiv_nonneg (by omega) (by decide)) q2)) (by simp only [f2]; decide)
      exact ⟨b, r ++ catM g 0 n, by rw [e1]; rfl, .inr (.inr (.inr (.inr (.inr (.inr (.inr (.inr (.inl ⟨rfl, e2⟩))))))))⟩

/-! ### What a law of reading is given -/
def gAV (p : PackT) (fs : Int) (sb : Bool) (bh : List UInt8) (ct : Int) : AV := .agg (gcells p fs sb bh ct)

theorem dataC (p : PackT) (hw : p.wf) (fs : Int) (sb : Bool) (bh : List UInt8) (ct : Int) :
    ACalls Tryd.prog noG 11 [gAV p fs sb bh ct] [] (.tup [.lit (.slice none 0 0), .lit (.slice none 0 0), .lit (.bool false), .lit (.bool false)]) [] ∨
    ∃ out d r cu, Enc p out ∧ p.fits 6 = true ∧ p.cnt ≤ 500 ∧ out.length ≤ 70000000 ∧ bh.length ≤ 100 ∧ ((cu = true ∧ r = [] ∧ ∃ m, m < out.length ∧ d = out.take m) ∨ (cu = false ∧ d = out ++ bh ∧ r = bh)) ∧
      ACalls Tryd.prog noG 11 [gAV p fs sb bh ct] [] (.tup [.bts d, .bts r, .lit (.bool cu), .lit (.bool true)]) [] := by
  have h1 := packFitsC p hw 6 (by decide) (by decide)
  cases hf : (decide (p.cnt ≤ 2000) && p.fits 6) with
  | false => rw [hf] at h1; exact .inl (gd1 p fs sb bh ct 0 0 [] ⟨by simp, h1, trivial⟩)
  | true =>
    rw [hf] at h1
    simp only [Bool.and_eq_true, decide_eq_true_eq] at hf
    have h2 := packsC p hw (by omega)
    cases hc : (bif decide ((p.cnt : Int) > 500) then true else decide ((bh.length : Int) > 100)) with
    | true => exact .inl (gd2 p fs sb bh ct p.cnt 0 [] ⟨hc, h2, h1, trivial⟩)
    | false =>
      have hb : p.cnt ≤ 500 ∧ bh.length ≤ 100 := by
        simp at hc
        omega
      obtain ⟨out, st, ho, hl, h3⟩ := putC p hw 6 hf.2 (by omega) fs sb
      obtain ⟨b, rr, e1, -⟩ := encLead p out 6 hw hf.2 ho
      have hpos : 0 < out.length := by rw [e1]; simp
      refine .inr ?_
      by_cases hct : 0 < ct
      · let m : Nat := out.length - (if (out.length : Int) < ct then out.length else ct.toNat)
        have hm : ((out.length : Int) - if (out.length : Int) < ct then (out.length : Int) else ct) = (m : Int) := by
          simp only [m]
          split <;> omega
        have hmlt : m < out.length := by
          simp only [m]
          split <;> omega
        have wm : IntKind.i64.wrap (m : Int) = m := wrap64 (by omega) (by omega)
        have r1 := gd4 p fs sb bh ct p.cnt st out ⟨by rw [hm, wm]; refine ⟨by omega, by omega, .inl (by omega)⟩, by simp; omega, h3, hc, h2, h1, trivial⟩
        rw [hm, wm] at r1
        refine ⟨out, out.take m, [], true, ho, hf.2, hb.1, by omega, hb.2, .inl ⟨rfl, rfl, m, hmlt, rfl⟩, ?_⟩
        exact ((r1.freezeRet 0 rfl rfl).only [] rfl).le (leAll_refl _) (Le_tup ⟨by show Le (.bts ((out.drop 0).take ((m : Int).toNat - 0))) _; simp, Le_nil, Le.refl _, Le.refl _, trivial⟩) rfl
      · have r1 := gd5 p fs sb bh ct p.cnt st out ⟨by omega, by simp; omega, h3, hc, h2, h1, trivial⟩
        refine ⟨out, out ++ bh, bh, false, ho, hf.2, hb.1, by omega, hb.2, .inr ⟨rfl, rfl, rfl⟩, ?_⟩
        exact ((r1.freezeRet 0 rfl rfl).only [] rfl).cast rfl rfl (by simp [AV.frz, AV.frzL, frzOwn, AV.ren, AV.renL, List.take_of_length_le]) rfl
end Go.Ax
