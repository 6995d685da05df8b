/-
  Values of AMQP: what spec.ValueFits makes known of one.
-/
import Derived.Test.YtbdfpnhcincimaaDoorVaJ
import Derived.Test.YtbdfpnhcincimaaDoorVaK
import Derived.Test.YtbdfpnhcincimaaDoorX1a
import Derived.Test.YtbdfpnhcincimaaDoorX2s
import Derived.Test.YtbdfpnhcincimaaDoorY0
import Derived.Test.YtbdfpnhcincimaaDoorY1
import Derived.Test.YtbdfpnhcincimaaDoorY2
import Derived.Test.YtbdfpnhcincimaaDoorY3
import Derived.Test.YtbdfpnhcincimaaDoorY4
import Derived.Test.YtbdfpnhcincimaaDoorY5
import Derived.Test.YtbdfpnhcincimaaDoorY7
set_option linter.unusedVariables false
set_option linter.unusedSimpArgs false
set_option maxRecDepth 100000
set_option maxHeartbeats 1000000
namespace Go.Ax
open Go.Proofs

theorem wrapS64 (n : Int) : IntKind.i64.wrap n = (n + 9223372036854775808) % 18446744073709551616 - 9223372036854775808 := by
  simp [IntKind.wrap, IntKind.signed, IntKind.bits, Int.bmod_def]
  omega

/-- A number that its bits tell. -/
def NumOk (k u : Int) : Prop :=
  (k = 2 → u < 256) ∧ (k = 3 → u < 65536) ∧ (k = 4 → u < 4294967296) ∧ (k = 6 → -128 ≤ IntKind.i64.wrap u ∧ IntKind.i64.wrap u < 128) ∧ (k = 7 → -32768 ≤ IntKind.i64.wrap u ∧ IntKind.i64.wrap u < 32768) ∧
  (k = 8 → -2147483648 ≤ IntKind.i64.wrap u ∧ IntKind.i64.wrap u < 2147483648)

/-- What a value's number, text, or values are known to be. -/
def ContF (k u : Int) (t : ByteArray) (n : Nat) (f : Nat → ValT) (o : Int) : Prop :=
  (k = 1 → u ≤ 1) ∧ (k = 14 ∨ k = 17 → t.size = 16) ∧ NumOk k u ∧ (k = 23 → (n = 0 → 0 ≤ o ∧ o < 24) ∧ ∀ i, i < n → (f i).kind = (f 0).kind ∧ (f i).nd = (f 0).nd)

theorem fixedM1 (k : Int) (h : (k = 0 ∨ k = 1) ∨ 18 ≤ k) (hk : widthOf k = 0) : ACalls Tryd.prog noG 112 [.lit (.int .i64 k)] [] (.lit (.int .i64 (-1))) [] :=
  (fsl k ⟨h, trivial⟩).cast rfl rfl (by rw [show mgetI _ k 0 = widthOf k from rfl, hk]; rfl) rfl
theorem fixed16 (k : Int) (h : k = 14 ∨ k = 17) : ACalls Tryd.prog noG 112 [.lit (.int .i64 k)] [] (.lit (.int .i64 16)) [] := by
  rcases h with rfl | rfl
  · exact (fsk 14 ⟨by omega, trivial⟩).cast rfl rfl (by rw [show mgetI _ 14 0 = 16 from rfl]; rfl) rfl
  · exact (fsk 17 ⟨by omega, trivial⟩).cast rfl rfl (by rw [show mgetI _ 17 0 = 16 from rfl]; rfl) rfl

/-- The kinds whose values are numbers of one size, but for code points. -/
theorem ctN (k u : Int) (t : ByteArray) (n : Nat) (f : Nat → ValT) (o : Int) (d : Nat) (g : Nat → ValT) (z : Int) (hw : ACalls Tryd.prog noG 112 [.lit (.int .i64 k)] [] (.lit (.int .i64 z)) [])
    (hk : (k == 23) = false ∧ (k == 22) = false ∧ (k == 20) = false ∧ (k == 19) = false ∧ (k == 17) = false ∧ (k == 14) = false ∧ (k == 15) = false ∧ (k == 1) = false)
    (hs : 0 ≤ IntKind.i64.wrap ((64 : Int) - IntKind.i64.wrap ((8 : Int) * z))) (hz : (bif decide (z > 0) then decide (z ≤ 8) else false) = true) :
    ∃ b : Bool, (b = true → (bif bif bif decide (k ≥ (6 : Int)) then decide (k ≤ (9 : Int)) else false then IntKind.u64.wrap ((IntKind.i64.wrap (IntKind.u64.wrap (u * (2 : Int) ^ Min.min (IntKind.i64.wrap ((64 : Int) - IntKind.i64.wrap ((8 : Int) * z))).toNat 64))).fdiv ((2 : Int) ^ Min.min (IntKind.i64.wrap ((64 : Int) - IntKind.i64.wrap ((8 : Int) * z))).toNat 64)) != u else false then true else bif !bif decide (k ≥ (6 : Int)) then decide (k ≤ (9 : Int)) else false then (IntKind.u64.wrap (u * (2 : Int) ^ Min.min (IntKind.i64.wrap ((64 : Int) - IntKind.i64.wrap ((8 : Int) * z))).toNat 64)).fdiv ((2 : Int) ^ Min.min (IntKind.i64.wrap ((64 : Int) - IntKind.i64.wrap ((8 : Int) * z))).toNat 64) != u else false) = false) ∧ ACalls Tryd.prog noG 106 [.agg (vmk k u t n f o d g)] [] (.lit (.bool b)) [] := by
  obtain ⟨a1, a2, a3, a4, a5, a6, a7, a8⟩ := hk
  cases hE : (bif bif bif decide (k ≥ (6 : Int)) then decide (k ≤ (9 : Int)) else false then IntKind.u64.wrap ((IntKind.i64.wrap (IntKind.u64.wrap (u * (2 : Int) ^ Min.min (IntKind.i64.wrap ((64 : Int) - IntKind.i64.wrap ((8 : Int) * z))).toNat 64))).fdiv ((2 : Int) ^ Min.min (IntKind.i64.wrap ((64 : Int) - IntKind.i64.wrap ((8 : Int) * z))).toNat 64)) != u else false then true else bif !bif decide (k ≥ (6 : Int)) then decide (k ≤ (9 : Int)) else false then (IntKind.u64.wrap (u * (2 : Int) ^ Min.min (IntKind.i64.wrap ((64 : Int) - IntKind.i64.wrap ((8 : Int) * z))).toNat 64)).fdiv ((2 : Int) ^ Min.min (IntKind.i64.wrap ((64 : Int) - IntKind.i64.wrap ((8 : Int) * z))).toNat 64) != u else false) with
  | true => exact ⟨false, fun h => (by cases h), cgN k u t n f o d g z (by simp only [AllP]; repeat' (first | exact trivial | with_reducible apply And.intro | assumption | intro _))⟩
  | false => exact ⟨_, fun _ => rfl, cfN k u t n f o d g z (by simp only [AllP]; repeat' (first | exact trivial | with_reducible apply And.intro | assumption | intro _))⟩

theorem ct0 (u : Int) (t : ByteArray) (n : Nat) (f : Nat → ValT) (o : Int) (d : Nat) (g : Nat → ValT) (h0 : 0 ≤ u) (h1 : u < 18446744073709551616) : ∃ b : Bool, (b = true → ContF 0 u t n f o) ∧ ACalls Tryd.prog noG 106 [.agg (vmk 0 u t n f o d g)] [] (.lit (.bool b)) [] :=
  ⟨_, fun _ => ⟨by omega, by omega, ⟨by omega, by omega, by omega, by omega, by omega, by omega⟩, by omega⟩, cfZ 0 u t n f o d g (-1) ⟨by decide, by decide, by decide, by decide, by decide, by decide, by decide, by decide, by decide, fixedM1 0 (by omega) rfl, trivial⟩⟩

theorem ct1 (u : Int) (t : ByteArray) (n : Nat) (f : Nat → ValT) (o : Int) (d : Nat) (g : Nat → ValT) (h0 : 0 ≤ u) (h1 : u < 18446744073709551616) : ∃ b : Bool, (b = true → ContF 1 u t n f o) ∧ ACalls Tryd.prog noG 106 [.agg (vmk 1 u t n f o d g)] [] (.lit (.bool b)) [] :=
  ⟨_, fun h => ⟨fun _ => by simpa using h, by omega, ⟨by omega, by omega, by omega, by omega, by omega, by omega⟩, by omega⟩, cf1 u t n f o d g ⟨fixedM1 1 (by omega) rfl, trivial⟩⟩

theorem ct2 (u : Int) (t : ByteArray) (n : Nat) (f : Nat → ValT) (o : Int) (d : Nat) (g : Nat → ValT) (h0 : 0 ≤ u) (h1 : u < 18446744073709551616) : ∃ b : Bool, (b = true → ContF 2 u t n f o) ∧ ACalls Tryd.prog noG 106 [.agg (vmk 2 u t n f o d g)] [] (.lit (.bool b)) [] := by
  obtain ⟨b, hb, hc⟩ := ctN 2 u t n f o d g 1 (fixedN (k := 2) (by unfold NumK; omega)) (by decide) (by decide) (by decide)
  exact ⟨b, fun h => by
    have hE : (bif bif false then IntKind.u64.wrap ((IntKind.i64.wrap (IntKind.u64.wrap (u * 72057594037927936))).fdiv 72057594037927936) != u else false then true else bif !false then (IntKind.u64.wrap (u * 72057594037927936)).fdiv 72057594037927936 != u else false) = false := hb h
    exact ⟨by omega, by omega, ⟨by intro _; simp at hE; rw [wrapU64, fdiv_pos _ _ (by decide)] at hE; omega, by omega, by omega, by omega, by omega, by omega⟩, by omega⟩, hc⟩

theorem ct3 (u : Int) (t : ByteArray) (n : Nat) (f : Nat → ValT) (o : Int) (d : Nat) (g : Nat → ValT) (h0 : 0 ≤ u) (h1 : u < 18446744073709551616) : ∃ b : Bool, (b = true → ContF 3 u t n f o) ∧ ACalls Tryd.prog noG 106 [.agg (vmk 3 u t n f o d g)] [] (.lit (.bool b)) [] := by
  obtain ⟨b, hb, hc⟩ := ctN 3 u t n f o d g 2 (fixedN (k := 3) (by unfold NumK; omega)) (by decide) (by decide) (by decide)
  exact ⟨b, fun h => by
    have hE : (bif bif false then IntKind.u64.wrap ((IntKind.i64.wrap (IntKind.u64.wrap (u * 281474976710656))).fdiv 281474976710656) != u else false then true else bif !false then (IntKind.u64.wrap (u * 281474976710656)).fdiv 281474976710656 != u else false) = false := hb h
    exact ⟨by omega, by omega, ⟨by omega, by intro _; simp at hE; rw [wrapU64, fdiv_pos _ _ (by decide)] at hE; omega, by omega, by omega, by omega, by omega⟩, by omega⟩, hc⟩

theorem ct4 (u : Int) (t : ByteArray) (n : Nat) (f : Nat → ValT) (o : Int) (d : Nat) (g : Nat → ValT) (h0 : 0 ≤ u) (h1 : u < 18446744073709551616) : ∃ b : Bool, (b = true → ContF 4 u t n f o) ∧ ACalls Tryd.prog noG 106 [.agg (vmk 4 u t n f o d g)] [] (.lit (.bool b)) [] := by
  obtain ⟨b, hb, hc⟩ := ctN 4 u t n f o d g 4 (fixedN (k := 4) (by unfold NumK; omega)) (by decide) (by decide) (by decide)
  exact ⟨b, fun h => by
    have hE : (bif bif false then IntKind.u64.wrap ((IntKind.i64.wrap (IntKind.u64.wrap (u * 4294967296))).fdiv 4294967296) != u else false then true else bif !false then (IntKind.u64.wrap (u * 4294967296)).fdiv 4294967296 != u else false) = false := hb h
    exact ⟨by omega, by omega, ⟨by omega, by omega, by intro _; simp at hE; rw [wrapU64, fdiv_pos _ _ (by decide)] at hE; omega, by omega, by omega, by omega⟩, by omega⟩, hc⟩

theorem ct5 (u : Int) (t : ByteArray) (n : Nat) (f : Nat → ValT) (o : Int) (d : Nat) (g : Nat → ValT) (h0 : 0 ≤ u) (h1 : u < 18446744073709551616) : ∃ b : Bool, (b = true → ContF 5 u t n f o) ∧ ACalls Tryd.prog noG 106 [.agg (vmk 5 u t n f o d g)] [] (.lit (.bool b)) [] := by
  obtain ⟨b, hb, hc⟩ := ctN 5 u t n f o d g 8 (fixedN (k := 5) (by unfold NumK; omega)) (by decide) (by decide) (by decide)
  exact ⟨b, fun h => ⟨by omega, by omega, ⟨by omega, by omega, by omega, by omega, by omega, by omega⟩, by omega⟩, hc⟩

theorem ct6 (u : Int) (t : ByteArray) (n : Nat) (f : Nat → ValT) (o : Int) (d : Nat) (g : Nat → ValT) (h0 : 0 ≤ u) (h1 : u < 18446744073709551616) : ∃ b : Bool, (b = true → ContF 6 u t n f o) ∧ ACalls Tryd.prog noG 106 [.agg (vmk 6 u t n f o d g)] [] (.lit (.bool b)) [] := by
  obtain ⟨b, hb, hc⟩ := ctN 6 u t n f o d g 1 (fixedN (k := 6) (by unfold NumK; omega)) (by decide) (by decide) (by decide)
  exact ⟨b, fun h => by
    have hE : (bif bif true then IntKind.u64.wrap ((IntKind.i64.wrap (IntKind.u64.wrap (u * 72057594037927936))).fdiv 72057594037927936) != u else false then true else bif !true then (IntKind.u64.wrap (u * 72057594037927936)).fdiv 72057594037927936 != u else false) = false := hb h
    exact ⟨by omega, by omega, ⟨by omega, by omega, by omega, by intro _; simp at hE; rw [wrapU64, fdiv_pos _ _ (by decide), wrapS64, wrapU64] at hE; rw [wrapS64]; omega, by omega, by omega⟩, by omega⟩, hc⟩

theorem ct7 (u : Int) (t : ByteArray) (n : Nat) (f : Nat → ValT) (o : Int) (d : Nat) (g : Nat → ValT) (h0 : 0 ≤ u) (h1 : u < 18446744073709551616) : ∃ b : Bool, (b = true → ContF 7 u t n f o) ∧ ACalls Tryd.prog noG 106 [.agg (vmk 7 u t n f o d g)] [] (.lit (.bool b)) [] := by
  obtain ⟨b, hb, hc⟩ := ctN 7 u t n f o d g 2 (fixedN (k := 7) (by unfold NumK; omega)) (by decide) (by decide) (by decide)
  exact ⟨b, fun h => by
    have hE : (bif bif true then IntKind.u64.wrap ((IntKind.i64.wrap (IntKind.u64.wrap (u * 281474976710656))).fdiv 281474976710656) != u else false then true else bif !true then (IntKind.u64.wrap (u * 281474976710656)).fdiv 281474976710656 != u else false) = false := hb h
    exact ⟨by omega, by omega, ⟨by omega, by omega, by omega, by omega, by intro _; simp at hE; rw [wrapU64, fdiv_pos _ _ (by decide), wrapS64, wrapU64] at hE; rw [wrapS64]; omega, by omega⟩, by omega⟩, hc⟩

theorem ct8 (u : Int) (t : ByteArray) (n : Nat) (f : Nat → ValT) (o : Int) (d : Nat) (g : Nat → ValT) (h0 : 0 ≤ u) (h1 : u < 18446744073709551616) : ∃ b : Bool, (b = true → ContF 8 u t n f o) ∧ ACalls Tryd.prog noG 106 [.agg (vmk 8 u t n f o d g)] [] (.lit (.bool b)) [] := by
  obtain ⟨b, hb, hc⟩ := ctN 8 u t n f o d g 4 (fixedN (k := 8) (by unfold NumK; omega)) (by decide) (by decide) (by decide)
  exact ⟨b, fun h => by
    have hE : (bif bif true then IntKind.u64.wrap ((IntKind.i64.wrap (IntKind.u64.wrap (u * 4294967296))).fdiv 4294967296) != u else false then true else bif !true then (IntKind.u64.wrap (u * 4294967296)).fdiv 4294967296 != u else false) = false := hb h
    exact ⟨by omega, by omega, ⟨by omega, by omega, by omega, by omega, by omega, by intro _; simp at hE; rw [wrapU64, fdiv_pos _ _ (by decide), wrapS64, wrapU64] at hE; rw [wrapS64]; omega⟩, by omega⟩, hc⟩

theorem ct9 (u : Int) (t : ByteArray) (n : Nat) (f : Nat → ValT) (o : Int) (d : Nat) (g : Nat → ValT) (h0 : 0 ≤ u) (h1 : u < 18446744073709551616) : ∃ b : Bool, (b = true → ContF 9 u t n f o) ∧ ACalls Tryd.prog noG 106 [.agg (vmk 9 u t n f o d g)] [] (.lit (.bool b)) [] := by
  obtain ⟨b, hb, hc⟩ := ctN 9 u t n f o d g 8 (fixedN (k := 9) (by unfold NumK; omega)) (by decide) (by decide) (by decide)
  exact ⟨b, fun h => ⟨by omega, by omega, ⟨by omega, by omega, by omega, by omega, by omega, by omega⟩, by omega⟩, hc⟩

theorem ct10 (u : Int) (t : ByteArray) (n : Nat) (f : Nat → ValT) (o : Int) (d : Nat) (g : Nat → ValT) (h0 : 0 ≤ u) (h1 : u < 18446744073709551616) : ∃ b : Bool, (b = true → ContF 10 u t n f o) ∧ ACalls Tryd.prog noG 106 [.agg (vmk 10 u t n f o d g)] [] (.lit (.bool b)) [] := by
  obtain ⟨b, hb, hc⟩ := ctN 10 u t n f o d g 4 (fixedN (k := 10) (by unfold NumK; omega)) (by decide) (by decide) (by decide)
  exact ⟨b, fun h => ⟨by omega, by omega, ⟨by omega, by omega, by omega, by omega, by omega, by omega⟩, by omega⟩, hc⟩

theorem ct11 (u : Int) (t : ByteArray) (n : Nat) (f : Nat → ValT) (o : Int) (d : Nat) (g : Nat → ValT) (h0 : 0 ≤ u) (h1 : u < 18446744073709551616) : ∃ b : Bool, (b = true → ContF 11 u t n f o) ∧ ACalls Tryd.prog noG 106 [.agg (vmk 11 u t n f o d g)] [] (.lit (.bool b)) [] := by
  obtain ⟨b, hb, hc⟩ := ctN 11 u t n f o d g 8 (fixedN (k := 11) (by unfold NumK; omega)) (by decide) (by decide) (by decide)
  exact ⟨b, fun h => ⟨by omega, by omega, ⟨by omega, by omega, by omega, by omega, by omega, by omega⟩, by omega⟩, hc⟩

theorem ct12 (u : Int) (t : ByteArray) (n : Nat) (f : Nat → ValT) (o : Int) (d : Nat) (g : Nat → ValT) (h0 : 0 ≤ u) (h1 : u < 18446744073709551616) : ∃ b : Bool, (b = true → ContF 12 u t n f o) ∧ ACalls Tryd.prog noG 106 [.agg (vmk 12 u t n f o d g)] [] (.lit (.bool b)) [] := by
  obtain ⟨b, hb, hc⟩ := ctN 12 u t n f o d g 4 (fixedN (k := 12) (by unfold NumK; omega)) (by decide) (by decide) (by decide)
  exact ⟨b, fun h => ⟨by omega, by omega, ⟨by omega, by omega, by omega, by omega, by omega, by omega⟩, by omega⟩, hc⟩

theorem ct13 (u : Int) (t : ByteArray) (n : Nat) (f : Nat → ValT) (o : Int) (d : Nat) (g : Nat → ValT) (h0 : 0 ≤ u) (h1 : u < 18446744073709551616) : ∃ b : Bool, (b = true → ContF 13 u t n f o) ∧ ACalls Tryd.prog noG 106 [.agg (vmk 13 u t n f o d g)] [] (.lit (.bool b)) [] := by
  obtain ⟨b, hb, hc⟩ := ctN 13 u t n f o d g 8 (fixedN (k := 13) (by unfold NumK; omega)) (by decide) (by decide) (by decide)
  exact ⟨b, fun h => ⟨by omega, by omega, ⟨by omega, by omega, by omega, by omega, by omega, by omega⟩, by omega⟩, hc⟩

theorem ct14 (u : Int) (t : ByteArray) (n : Nat) (f : Nat → ValT) (o : Int) (d : Nat) (g : Nat → ValT) (h0 : 0 ≤ u) (h1 : u < 18446744073709551616) : ∃ b : Bool, (b = true → ContF 14 u t n f o) ∧ ACalls Tryd.prog noG 106 [.agg (vmk 14 u t n f o d g)] [] (.lit (.bool b)) [] :=
  ⟨_, fun h => ⟨by omega, fun _ => by simp at h; omega, ⟨by omega, by omega, by omega, by omega, by omega, by omega⟩, by omega⟩, cf14 u t n f o d g ⟨fixed16 14 (by omega), trivial⟩⟩

theorem ct15 (u : Int) (t : ByteArray) (n : Nat) (f : Nat → ValT) (o : Int) (d : Nat) (g : Nat → ValT) (h0 : 0 ≤ u) (h1 : u < 18446744073709551616) : ∃ b : Bool, (b = true → ContF 15 u t n f o) ∧ ACalls Tryd.prog noG 106 [.agg (vmk 15 u t n f o d g)] [] (.lit (.bool b)) [] := by
  have hw := fixedN (k := 15) (by unfold NumK; omega)
  cases hE : (bif bif false then IntKind.u64.wrap ((IntKind.i64.wrap (IntKind.u64.wrap (u * 4294967296))).fdiv 4294967296) != u else false then true else bif !false then (IntKind.u64.wrap (u * 4294967296)).fdiv 4294967296 != u else false) with
  | true => exact ⟨false, fun h => (by cases h), cg15 u t n f o d g ⟨hE, hw, trivial⟩⟩
  | false => exact ⟨_, fun _ => ⟨by omega, by omega, ⟨by omega, by omega, by omega, by omega, by omega, by omega⟩, by omega⟩, cf15 u t n f o d g ⟨hE, hw, trivial⟩⟩

theorem ct16 (u : Int) (t : ByteArray) (n : Nat) (f : Nat → ValT) (o : Int) (d : Nat) (g : Nat → ValT) (h0 : 0 ≤ u) (h1 : u < 18446744073709551616) : ∃ b : Bool, (b = true → ContF 16 u t n f o) ∧ ACalls Tryd.prog noG 106 [.agg (vmk 16 u t n f o d g)] [] (.lit (.bool b)) [] := by
  obtain ⟨b, hb, hc⟩ := ctN 16 u t n f o d g 8 (fixedN (k := 16) (by unfold NumK; omega)) (by decide) (by decide) (by decide)
  exact ⟨b, fun h => ⟨by omega, by omega, ⟨by omega, by omega, by omega, by omega, by omega, by omega⟩, by omega⟩, hc⟩

theorem ct17 (u : Int) (t : ByteArray) (n : Nat) (f : Nat → ValT) (o : Int) (d : Nat) (g : Nat → ValT) (h0 : 0 ≤ u) (h1 : u < 18446744073709551616) : ∃ b : Bool, (b = true → ContF 17 u t n f o) ∧ ACalls Tryd.prog noG 106 [.agg (vmk 17 u t n f o d g)] [] (.lit (.bool b)) [] :=
  ⟨_, fun h => ⟨by omega, fun _ => by simp at h; omega, ⟨by omega, by omega, by omega, by omega, by omega, by omega⟩, by omega⟩, cf17 u t n f o d g ⟨fixed16 17 (by omega), trivial⟩⟩

theorem ct18 (u : Int) (t : ByteArray) (n : Nat) (f : Nat → ValT) (o : Int) (d : Nat) (g : Nat → ValT) (h0 : 0 ≤ u) (h1 : u < 18446744073709551616) : ∃ b : Bool, (b = true → ContF 18 u t n f o) ∧ ACalls Tryd.prog noG 106 [.agg (vmk 18 u t n f o d g)] [] (.lit (.bool b)) [] :=
  ⟨_, fun _ => ⟨by omega, by omega, ⟨by omega, by omega, by omega, by omega, by omega, by omega⟩, by omega⟩, cfZ 18 u t n f o d g (-1) ⟨by decide, by decide, by decide, by decide, by decide, by decide, by decide, by decide, by decide, fixedM1 18 (by omega) rfl, trivial⟩⟩

theorem ct20 (u : Int) (t : ByteArray) (n : Nat) (f : Nat → ValT) (o : Int) (d : Nat) (g : Nat → ValT) (h0 : 0 ≤ u) (h1 : u < 18446744073709551616) (ht : t.size ≤ 9223372036854775807) : ∃ b : Bool, (b = true → ContF 20 u t n f o) ∧ ACalls Tryd.prog noG 106 [.agg (vmk 20 u t n f o d g)] [] (.lit (.bool b)) [] := by
  obtain ⟨b, hb⟩ := asciiE t ht
  exact ⟨b, fun _ => ⟨by omega, by omega, ⟨by omega, by omega, by omega, by omega, by omega, by omega⟩, by omega⟩, cf20 u t n f o d g b ⟨hb, fixedM1 20 (by omega) rfl, trivial⟩⟩

theorem ct21 (u : Int) (t : ByteArray) (n : Nat) (f : Nat → ValT) (o : Int) (d : Nat) (g : Nat → ValT) (h0 : 0 ≤ u) (h1 : u < 18446744073709551616) : ∃ b : Bool, (b = true → ContF 21 u t n f o) ∧ ACalls Tryd.prog noG 106 [.agg (vmk 21 u t n f o d g)] [] (.lit (.bool b)) [] :=
  ⟨_, fun _ => ⟨by omega, by omega, ⟨by omega, by omega, by omega, by omega, by omega, by omega⟩, by omega⟩, cfZ 21 u t n f o d g (-1) ⟨by decide, by decide, by decide, by decide, by decide, by decide, by decide, by decide, by decide, fixedM1 21 (by omega) rfl, trivial⟩⟩

theorem ct22 (u : Int) (t : ByteArray) (n : Nat) (f : Nat → ValT) (o : Int) (d : Nat) (g : Nat → ValT) (h0 : 0 ≤ u) (h1 : u < 18446744073709551616) : ∃ b : Bool, (b = true → ContF 22 u t n f o) ∧ ACalls Tryd.prog noG 106 [.agg (vmk 22 u t n f o d g)] [] (.lit (.bool b)) [] :=
  ⟨_, fun _ => ⟨by omega, by omega, ⟨by omega, by omega, by omega, by omega, by omega, by omega⟩, by omega⟩, cf22 u t n f o d g ⟨fixedM1 22 (by omega) rfl, trivial⟩⟩

theorem ct23 (u : Int) (t : ByteArray) (n : Nat) (f : Nat → ValT) (o : Int) (d : Nat) (g : Nat → ValT) (h0 : 0 ≤ u) (h1 : u < 18446744073709551616) (hn : n ≤ 9223372036854775807) (hw : ∀ i, i < n → ∀ j, j < (f i).nd → ((f i).dscf j).wf) : ∃ b : Bool, (b = true → ContF 23 u t n f o) ∧ ACalls Tryd.prog noG 106 [.agg (vmk 23 u t n f o d g)] [] (.lit (.bool b)) [] := by
  obtain ⟨b, hf, hb⟩ := arrayFitsC 23 u t n f o d g hn hw
  exact ⟨b, fun h => ⟨by omega, by omega, ⟨by omega, by omega, by omega, by omega, by omega, by omega⟩, fun _ => hf h⟩, cf23 u t n f o d g b ⟨hb, fixedM1 23 (by omega) rfl, trivial⟩⟩

theorem contentC (G : Env) (hV : ∀ s : ByteArray, s.size ≤ 131072 → ∃ b : Bool, ACalls Tryd.prog G 122 [.lit (.string s)] [] (.lit (.bool b)) []) (k u : Int) (t : ByteArray) (n : Nat) (f : Nat → ValT) (o : Int) (d : Nat) (g : Nat → ValT) (hk0 : 0 ≤ k) (hk1 : k < 24) (h0 : 0 ≤ u) (h1 : u < 18446744073709551616)
    (ht : t.size ≤ 131072) (hn : n ≤ 9223372036854775807) (hw : ∀ i, i < n → ∀ j, j < (f i).nd → ((f i).dscf j).wf) :
    ∃ b : Bool, (b = true → ContF k u t n f o) ∧ ACalls Tryd.prog G 106 [.agg (vmk k u t n f o d g)] [] (.lit (.bool b)) [] := by
  by_cases h19 : k = 19
  · subst h19
    obtain ⟨b, hb⟩ := hV t ht
    exact ⟨b, fun _ => ⟨by omega, by omega, ⟨by omega, by omega, by omega, by omega, by omega, by omega⟩, by omega⟩, vxs G u t n f o d g b ⟨hb, (fixedM1 19 (by omega) rfl).anyG G, trivial⟩⟩
  have key : ∃ b : Bool, (b = true → ContF k u t n f o) ∧ ACalls Tryd.prog noG 106 [.agg (vmk k u t n f o d g)] [] (.lit (.bool b)) [] := by
    have : k = 0 ∨ k = 1 ∨ k = 2 ∨ k = 3 ∨ k = 4 ∨ k = 5 ∨ k = 6 ∨ k = 7 ∨ k = 8 ∨ k = 9 ∨ k = 10 ∨ k = 11 ∨ k = 12 ∨ k = 13 ∨ k = 14 ∨ k = 15 ∨ k = 16 ∨ k = 17 ∨ k = 18 ∨ k = 20 ∨ k = 21 ∨ k = 22 ∨ k = 23 := by omega
    rcases this with rfl | rfl | rfl | rfl | rfl | rfl | rfl | rfl | rfl | rfl | rfl | rfl | rfl | rfl | rfl | rfl | rfl | rfl | rfl | rfl | rfl | rfl | rfl
    · exact ct0 u t n f o d g h0 h1
    · exact ct1 u t n f o d g h0 h1
    · exact ct2 u t n f o d g h0 h1
    · exact ct3 u t n f o d g h0 h1
    · exact ct4 u t n f o d g h0 h1
    · exact ct5 u t n f o d g h0 h1
    · exact ct6 u t n f o d g h0 h1
    · exact ct7 u t n f o d g h0 h1
    · exact ct8 u t n f o d g h0 h1
    · exact ct9 u t n f o d g h0 h1
    · exact ct10 u t n f o d g h0 h1
    · exact ct11 u t n f o d g h0 h1
    · exact ct12 u t n f o d g h0 h1
    · exact ct13 u t n f o d g h0 h1
    · exact ct14 u t n f o d g h0 h1
    · exact ct15 u t n f o d g h0 h1
    · exact ct16 u t n f o d g h0 h1
    · exact ct17 u t n f o d g h0 h1
    · exact ct18 u t n f o d g h0 h1
    · exact ct20 u t n f o d g h0 h1 (by omega)
    · exact ct21 u t n f o d g h0 h1
    · exact ct22 u t n f o d g h0 h1
    · exact ct23 u t n f o d g h0 h1 hn hw
  obtain ⟨b, hb1, hb2⟩ := key
  exact ⟨b, hb1, hb2.anyG G⟩

/-- What else is known of a value by itself. -/
def XF (k u : Int) (t : ByteArray) (n : Nat) : Prop := (k ≠ 21 → k ≠ 22 → k ≠ 23 → n = 0) ∧ (k < 17 ∨ 20 < k → ¬k = 14 → t.toList = []) ∧ ((k < 1 ∨ 16 < k) ∨ k = 14 → u = 0) ∧ (k = 14 ∨ k = 17 → t.size = 16) ∧ NumOk k u ∧ u < 18446744073709551616

def ValT.okv : ValT → Prop
  | .nul => True
  | .mk k u t n f o d g => OwnFit k u t n f o d ∧ XF k u t n ∧ (∀ i, i < n → (f i).okv) ∧ ∀ i, i < d → (g i).okv

theorem ValT.okv.fits : ∀ {p : ValT}, p.okv → p.fits := by
  intro p
  induction p with
  | nul => exact fun _ => trivial
  | mk k u t n f o d g ih ih2 => exact fun h => ⟨h.1, fun i hi => ih i (h.2.2.1 i hi), fun i hi => ih2 i (h.2.2.2 i hi)⟩

def lowB (k u : Int) (t : ByteArray) (n d : Nat) (l : Int) : Bool := (bif bif bif bif bif bif bif bif decide (l ≤ (0 : Int)) then true else decide (k < (0 : Int)) then true else decide (k ≥ (24 : Int)) then true else bif !bif bif k == (21 : Int) then true else k == (22 : Int) then true else k == (23 : Int) then decide ((↑n : Int) > (0 : Int)) else false then true else bif !bif bif decide (k ≥ (17 : Int)) then decide (k ≤ (20 : Int)) else false then true else k == (14 : Int) then !t.toList == (ByteArray.mk #[]).toList else false then true else bif !bif bif decide (k ≥ (1 : Int)) then decide (k ≤ (16 : Int)) else false then k != (14 : Int) else false then u != (0 : Int) else false then true else decide ((↑d : Int) > (1 : Int)) then true else decide ((↑n : Int) > (1000 : Int)) then true else decide ((↑t.size : Int) > (131072 : Int)))

theorem lowB_false {k u : Int} {t : ByteArray} {n d : Nat} {l : Int} (h : lowB k u t n d l = false) :
    (((((((0 < l ∧ 0 ≤ k) ∧ k < 24) ∧ (¬k = 21 → ¬k = 22 → ¬k = 23 → n = 0)) ∧ (k < 17 ∨ 20 < k → ¬k = 14 → t.toList = [])) ∧ ((k < 1 ∨ 16 < k) ∨ k = 14 → u = 0)) ∧ (n : Int) ≤ 1000) ∧ (t.size : Int) ≤ 131072) ∧ d ≤ 1 := by
  simp [lowB] at h
  obtain ⟨⟨⟨a, hd⟩, hn⟩, ht⟩ := h
  exact ⟨⟨⟨a, by omega⟩, by omega⟩, by omega⟩
end Go.Ax
