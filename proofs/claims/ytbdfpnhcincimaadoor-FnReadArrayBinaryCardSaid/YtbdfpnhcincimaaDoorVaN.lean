/-
  laws.Handed: its data, for any value.
-/
import Derived.Test.YtbdfpnhcincimaaDoorVaM
set_option linter.unusedVariables false
set_option linter.unusedSimpArgs false
set_option maxRecDepth 100000
set_option maxHeartbeats 1000000
namespace Go.Ax
open Go.Proofs

/-- The texts' check ends, whatever is known of the package-level variables that it reads. -/
def ValidAt (G : Env) : Prop := ∀ s : ByteArray, s.size ≤ 131072 → ∃ b : Bool, ACalls Tryd.prog G 122 [.lit (.string s)] [] (.lit (.bool b)) []

section
variable {G : Env} (hV : ValidAt G)

theorem vfitL (k u : Int) (t : ByteArray) (n : Nat) (f : Nat → ValT) (o : Int) (d : Nat) (g : Nat → ValT) (l : Int) (hl : l ≤ 1000000) (hl2 : 0 < l) (hn : n ≤ 9223372036854775807)
    (ih : ∀ i, i < n → ∃ b : Bool, (b = true → (f i).okv) ∧ ACalls Tryd.prog G 81 [vAV (f i), .lit (.int .i64 (l - 1))] [] (.lit (.bool b)) []) : ∀ (m i : Nat), n - i = m → i ≤ n →
    (LoopC Tryd.prog G 161 (loopAt Tryd.f81 0) [(1, .lit (.int .i64 l)), (2, .ptr 0 0), (147, .ro 6 n (fun i => vcl (f i))), (148, .lit (.int .i64 n)), (149, .lit (.int .i64 i))] [.cells 25 6 (vmk k u t n f o d g)] (.exit 0) [(2, .ptr 0 0)] [.cells 25 6 (vmk k u t n f o d g)] ∧ ∀ j, i ≤ j → j < n → (f j).okv) ∨
    LoopC Tryd.prog G 161 (loopAt Tryd.f81 0) [(1, .lit (.int .i64 l)), (2, .ptr 0 0), (147, .ro 6 n (fun i => vcl (f i))), (148, .lit (.int .i64 n)), (149, .lit (.int .i64 i))] [.cells 25 6 (vmk k u t n f o d g)] .ret [(4, .lit (.bool false))] [.cells 25 6 (vmk k u t n f o d g)]
  | 0, i, hm, hi => by
    have hd : decide ((i : Int) < n) = false := by simp; omega
    exact .inl ⟨LoopC.exit (vzx G k u t n f o d g l i (by simp only [AllP]; repeat' (first | exact trivial | with_reducible apply And.intro | assumption | omega))) (by simp), fun j h1 h2 => by omega⟩
  | m + 1, i, hm, hi => by
    have hlt : i < n := by omega
    have hd : decide ((i : Int) < n) = true := by simp; omega
    have hb : (0 : Int) ≤ i ∧ (i : Int) < n := by omega
    have w := wrapI i (by omega)
    have wl : IntKind.i64.wrap (l - 1) = l - 1 := wrap64 (by omega) (by omega)
    obtain ⟨b, hf, hc⟩ := ih i hlt
    cases b with
    | false => exact .inr (LoopC.exit (vzr G k u t n f o d g l i (by simp only [AllP, Int.toNat_natCast, wl]; repeat' (first | exact trivial | with_reducible apply And.intro | assumption | exact leAll_refl _ | omega))) (by simp))
    | true =>
      have st := vzl G k u t n f o d g l i (by simp only [AllP, Int.toNat_natCast, wl]; repeat' (first | exact trivial | with_reducible apply And.intro | assumption | exact leAll_refl _ | omega))
      rw [w] at st
      rcases vfitL k u t n f o d g l hl hl2 hn ih m (i + 1) (by omega) (by omega) with ⟨h, h2⟩ | h
      · refine .inl ⟨LoopC.step st h, fun j q1 q2 => ?_⟩
        by_cases hj : j = i
        · subst hj; exact hf rfl
        · exact h2 j (by omega) q2
      · exact .inr (LoopC.step st h)

include hV in
theorem vfit_mk (k u : Int) (t : ByteArray) (n : Nat) (f : Nat → ValT) (o : Int) (d : Nat) (g : Nat → ValT) (l : Int) (hl : l ≤ 1000000) (h0 : 0 ≤ u) (h1 : u < 18446744073709551616) (hn : n ≤ 9223372036854775807)
    (hwk : ∀ i, i < n → ∀ j, j < (f i).nd → ((f i).dscf j).wf)
    (ih : 0 < l → ∀ i, i < n → ∃ b : Bool, (b = true → (f i).okv) ∧ ACalls Tryd.prog G 81 [vAV (f i), .lit (.int .i64 (l - 1))] [] (.lit (.bool b)) [])
    (ih2 : 0 < l → ∀ i, i < d → ∃ b : Bool, (b = true → (g i).okv) ∧ ACalls Tryd.prog G 81 [vAV (g i), .lit (.int .i64 (l - 1))] [] (.lit (.bool b)) []) :
    ∃ b : Bool, (b = true → (ValT.mk k u t n f o d g).okv) ∧ ACalls Tryd.prog G 81 [.agg (vmk k u t n f o d g), .lit (.int .i64 l)] [] (.lit (.bool b)) [] := by
  cases hE : lowB k u t n d l with
  | true => exact ⟨false, fun h => (by cases h), (wfa k u t n f o d g l ⟨hE, trivial⟩).anyG G⟩
  | false =>
    obtain ⟨hg, hd⟩ := lowB_false hE
    have hg' := hg
    obtain ⟨⟨⟨⟨⟨⟨⟨g1, g2⟩, g3⟩, g4⟩, g5⟩, g6⟩, g7⟩, g8⟩ := hg'
    have ok : ∀ b : Bool, (b = true → ContF k u t n f o) → (∀ i, i < n → (f i).okv) → (∀ i, i < d → (g i).okv) → b = true → (ValT.mk k u t n f o d g).okv := fun b hc hk hdk hb => by
      obtain ⟨c1, c2, c3, c4⟩ := hc hb
      exact ⟨⟨g2, g3, h0, hd, by omega, by omega, c1, fun h => (c4 h).1, fun h => (c4 h).2⟩, ⟨g4, g5, g6, c2, c3, h1⟩, hk, hdk⟩
    obtain ⟨b, hc1, hc2⟩ := contentC G hV k u t n f o d g g2 g3 h0 h1 (by omega) hn hwk
    have hloop := vfitL k u t n f o d g l hl g1 hn (ih g1) n 0 rfl (Nat.zero_le _)
    rcases (show d = 0 ∨ d = 1 by omega) with rfl | rfl
    · rcases hloop with ⟨h, h2⟩ | h
      · have hq := h.code
        exact ⟨b, ok b hc1 (fun i hi => h2 i (Nat.zero_le _) hi) (fun i hi => absurd hi (Nat.not_lt_zero i)), vzb G k u t n f o g l b ⟨hc2, hq, hg, trivial⟩⟩
      · have hq := h.code
        exact ⟨false, fun h => (by cases h), vzc G k u t n f o g l ⟨hq, hg, trivial⟩⟩
    · obtain ⟨b2, hd1, hd2⟩ := ih2 g1 0 (by omega)
      cases b2 with
      | false => exact ⟨false, fun h => (by cases h), vzd G k u t n f o g l hl g1 ⟨hd2, hg, trivial⟩⟩
      | true =>
        by_cases hbad : ¬(g 0).kind = 5 ∧ ¬(g 0).kind = 20 ∨ 0 < (g 0).nd
        · exact ⟨false, fun h => (by cases h), vze G k u t n f o g l hl g1 ⟨hbad, hd2, hg, trivial⟩⟩
        · have hgood : (¬(g 0).kind = 5 → (g 0).kind = 20) ∧ (g 0).nd = 0 := by omega
          rcases hloop with ⟨h, h2⟩ | h
          · have hq := h.code
            refine ⟨b, ok b hc1 (fun i hi => h2 i (Nat.zero_le _) hi) (fun i hi => ?_), vzf G k u t n f o g l b hl g1 ⟨hc2, hq, hgood, hd2, hg, trivial⟩⟩
            obtain rfl : i = 0 := by omega
            exact hd1 rfl
          · have hq := h.code
            exact ⟨false, fun h => (by cases h), vzg G k u t n f o g l hl g1 ⟨hq, hgood, hd2, hg, trivial⟩⟩

theorem ACalls.vnulArgG {fn : FuncId} {args : List AV} {H H' : List Row} {ret : AV} (h : ACalls Tryd.prog G fn (.agg (vmk 0 0 .empty 0 (fun _ => .nul) 0 0 (fun _ => .nul)) :: args) H ret H') : ACalls Tryd.prog G fn (vAV .nul :: args) H ret H' :=
  h.le (args' := vAV .nul :: args) ⟨vnul_le, leAll_refl _⟩ (Le.refl _) rfl

theorem wf_desc : ∀ {p : ValT}, p.wf → ∀ j, j < p.nd → (p.dscf j).wf
  | .nul, _, j, hj => absurd hj (Nat.not_lt_zero j)
  | .mk k u t n f o d g, h, j, hj => h.2.2.2.2.2.2 j hj

include hV in
theorem vfitC : ∀ p : ValT, p.wf → ∀ l : Int, l ≤ 1000000 → ∃ b : Bool, (b = true → p.okv) ∧ ACalls Tryd.prog G 81 [vAV p, .lit (.int .i64 l)] [] (.lit (.bool b)) [] := by
  intro p
  induction p with
  | nul =>
    intro _ l hl
    obtain ⟨b, _, h⟩ := vfit_mk hV 0 0 .empty 0 (fun _ => .nul) 0 0 (fun _ => .nul) l hl (by omega) (by omega) (by omega) (fun i hi => absurd hi (Nat.not_lt_zero i)) (fun _ i hi => absurd hi (Nat.not_lt_zero i)) (fun _ i hi => absurd hi (Nat.not_lt_zero i))
    exact ⟨b, fun _ => trivial, ACalls.vnulArgG h⟩
  | mk k u t n f o d g ih ih2 =>
    intro hw l hl
    exact vfit_mk hV k u t n f o d g l hl hw.1 hw.2.1 hw.2.2.1 (fun i hi => wf_desc (hw.2.2.2.2.2.1 i hi)) (fun h0 i hi => ih i (hw.2.2.2.2.2.1 i hi) (l - 1) (by omega)) (fun h0 i hi => ih2 i (hw.2.2.2.2.2.2 i hi) (l - 1) (by omega))

include hV in
theorem valueFitsC (p : ValT) (hw : p.wf) : ∃ b : Bool, (b = true → p.okv ∧ p.cnt ≤ 2000) ∧ ACalls Tryd.prog G 46 [vAV p, .lit (.int .i64 6)] [] (.lit (.bool b)) [] := by
  have a := (fewV p hw 2000 (by omega)).anyG G
  obtain ⟨b, h1, h2⟩ := vfitC hV p hw 6 (by omega)
  cases hd : decide (p.cnt ≤ 2000) with
  | false => rw [hd] at a; exact ⟨false, fun h => (by cases h), vya G p 6 _ ⟨a, trivial⟩⟩
  | true => rw [hd] at a; exact ⟨b, fun h => ⟨h1 h, by simpa using hd⟩, vyb G p 6 _ b ⟨h2, a, trivial⟩⟩
end

theorem valuesE : ∀ p : ValT, p.okv → ∃ c : Int, ACalls Tryd.prog noG 47 [vAV p] [] (.lit (.int .i64 c)) [] := by
  intro p
  induction p with
  | nul =>
    intro _
    obtain ⟨c, h⟩ := values_mk 0 0 .empty 0 (fun _ => .nul) 0 0 (fun _ => .nul) (by omega) (fun i hi => absurd hi (Nat.not_lt_zero i)) (fun i hi => absurd hi (Nat.not_lt_zero i))
    exact ⟨c, h.le ⟨vnul_le, trivial⟩ (Le.refl _) rfl⟩
  | mk k u t n f o d g ih ih2 =>
    intro hw
    obtain ⟨⟨_, _, _, w3, w4, _⟩, _, wk, wd⟩ := hw
    exact values_mk k u t n f o d g (by omega) (fun i hi => ih i (wk i hi)) (fun i hi => ih2 i (wd i hi))

theorem sumN_mul (g h : Nat → Nat) (c : Nat) : ∀ (m i : Nat), (∀ j, i ≤ j → j < i + m → g j ≤ c * h j) → sumN g i m ≤ c * sumN h i m
  | 0, i, _ => by simp [sumN]
  | m + 1, i, hh => by
    simp only [sumN]
    have a := hh i (by omega) (by omega)
    have b := sumN_mul g h c m (i + 1) (fun j h1 h2 => hh j (by omega) (by omega))
    rw [Nat.mul_add]
    omega

theorem bd_cnt : ∀ p : ValT, p.okv → p.bd ≤ 131102 * p.cnt := by
  intro p
  induction p with
  | nul => intro _; show 30 ≤ 131102 * 1; omega
  | mk k u t n f o d g ih ih2 =>
    intro hw
    obtain ⟨⟨_, _, _, w3, w4, w5, _⟩, _, wk, wd⟩ := hw
    have a := sumN_mul (fun i => (f i).bd) (fun i => (f i).cnt) 131102 n 0 (fun j _ h2 => ih j (wk j (by omega)))
    have b := sumN_mul (fun i => (g i).bd) (fun i => (g i).cnt) 131102 d 0 (fun j _ h2 => ih2 j (wd j (by omega)))
    show 30 + t.size + sumN (fun i => (f i).bd) 0 n + sumN (fun i => (g i).bd) 0 d ≤ 131102 * (1 + sumN (fun i => (f i).cnt) 0 n + sumN (fun i => (g i).cnt) 0 d)
    rw [Nat.mul_add, Nat.mul_add]
    omega

/-- What a law is given when it is asked: a value, its bytes. -/
structure Asked (p : ValT) (bh : List UInt8) (out : List UInt8) : Prop where
  ok : p.okv
  nd : p.nd = 0
  few : p.cnt ≤ 2000
  texts : noEmpty p.kind p.n p.kidf
  bh : bh.length ≤ 100
  len : out.length ≤ 262204000
  out : OutF p out

/-- The data that a law is given. -/
theorem dataC {G : Env} (hV : ValidAt G) (p : ValT) (hw : p.wf) (fs : Int) (bh : List UInt8) (ct : Int) (hc : ct < 9223372036854775808) :
    ACalls Tryd.prog G 15 [hAV p fs bh ct] [] (.tup [.bts [], .bts [], .lit (.bool false), .lit (.bool false)]) [] ∨
    ∃ out : List UInt8, Asked p bh out ∧
      ((0 < ct ∧ ∃ m : Nat, m < out.length ∧ ACalls Tryd.prog G 15 [hAV p fs bh ct] [] (.tup [.own 0 0 m none, .bts [], .lit (.bool true), .lit (.bool true)]) [.bytes 5 out]) ∨
       (ct ≤ 0 ∧ ACalls Tryd.prog G 15 [hAV p fs bh ct] [] (.tup [.own 0 0 (out ++ bh).length none, .bts bh, .lit (.bool false), .lit (.bool true)]) [.bytes 5 (out ++ bh)])) := by
  have no : ∀ (h : ACalls Tryd.prog G 15 [hAV p fs bh ct] [] (.tup [.lit (.slice none 0 0), .lit (.slice none 0 0), .lit (.bool false), .lit (.bool false)]) []), ACalls Tryd.prog G 15 [hAV p fs bh ct] [] (.tup [.bts [], .bts [], .lit (.bool false), .lit (.bool false)]) [] :=
    fun h => h.le (leAll_refl _) (Le_tup ⟨Le_nil, Le_nil, Le.refl _, Le.refl _, trivial⟩) rfl
  obtain ⟨b, hb1, hb2⟩ := valueFitsC hV p hw
  cases b with
  | false => exact .inl (no (dta G p fs bh ct ⟨hb2, trivial⟩))
  | true =>
    obtain ⟨hok, hcnt⟩ := hb1 rfl
    obtain ⟨c, hv0⟩ := valuesE p hok
    have hv := hv0.anyG G
    by_cases hbig : ((500 : Int) < c ∨ (100 : Int) < bh.length) ∨ 0 < p.nd
    · exact .inl (no (dtb G p fs bh ct c ⟨hbig, hv, hb2, trivial⟩))
    · have hsm : (c ≤ 500 ∧ (bh.length : Int) ≤ 100) ∧ p.nd = 0 := by omega
      obtain ⟨e, he1, he2⟩ := emptyE p hw
      have he := he2.anyG G
      cases e with
      | true => exact .inl (no (dtc G p fs bh ct c ⟨he, hsm, hv, hb2, trivial⟩))
      | false =>
        have hbd := bd_cnt p hok
        obtain ⟨hput, _, _⟩ := putAll false p hok.fits (by omega)
        obtain ⟨out, st, ho, hp0⟩ := hput fs
        have hp := hp0.anyG G
        have hlen : out.length ≤ 262204000 := by have := ho.1; omega
        refine .inr ⟨out, ⟨hok, hsm.2, hcnt, he1 rfl, by omega, hlen, ho⟩, ?_⟩
        by_cases hct : 0 < ct
        · have hpos := ho.2.1
          have hw2 : IntKind.i64.wrap ((out.length : Int) - if (out.length : Int) < ct then (out.length : Int) else ct) = (out.length : Int) - if (out.length : Int) < ct then (out.length : Int) else ct := by
            split <;> exact wrap64 (by omega) (by omega)
          refine .inl ⟨hct, ((out.length : Int) - if (out.length : Int) < ct then (out.length : Int) else ct).toNat, ?_, ?_⟩
          · split <;> omega
          · have := dtd G p fs bh ct c st out ⟨⟨by rw [hw2]; split <;> omega, by rw [hw2]; split <;> omega⟩, hct, hp, hsm, he, hv, hb2, trivial⟩
            rw [hw2] at this
            exact this.le (leAll_refl _) (Le_tup ⟨Le.refl _, Le_nil, Le.refl _, Le.refl _, trivial⟩) rfl
        · refine .inr ⟨by omega, ?_⟩
          have := dte G p fs bh ct c st out ⟨by omega, by omega, hp, hsm, he, hv, hb2, trivial⟩
          rw [← List.length_append] at this
          exact this
end Go.Ax
