/-
  Values of AMQP as trees, as abstract values.
-/
import Derived.Test.YtbdfpnhcincimaaDoorAx33
import Derived.Test.YtbdfpnhcincimaaDoorProg
set_option linter.unusedVariables false
namespace Go.Ax
inductive ValT where
  | nul
  | mk (kind num : Int) (text : ByteArray) (n : Nat) (kid : Nat → ValT) (kof : Int) (nd : Nat) (dsc : Nat → ValT)
def ValT.kind : ValT → Int | .mk k _ _ _ _ _ _ _ => k | .nul => 0
def ValT.num : ValT → Int | .mk _ u _ _ _ _ _ _ => u | .nul => 0
def ValT.text : ValT → ByteArray | .mk _ _ t _ _ _ _ _ => t | .nul => .empty
def ValT.n : ValT → Nat | .mk _ _ _ n _ _ _ _ => n | .nul => 0
def ValT.kof : ValT → Int | .mk _ _ _ _ _ o _ _ => o | .nul => 0
def ValT.nd : ValT → Nat | .mk _ _ _ _ _ _ d _ => d | .nul => 0
def ValT.kidf : ValT → Nat → ValT | .mk _ _ _ _ f _ _ _ => f | .nul => fun _ => .nul
def ValT.dscf : ValT → Nat → ValT | .mk _ _ _ _ _ _ _ g => g | .nul => fun _ => .nul
/-- The cells of a value's values: of those in it, or (true) of its descriptor. -/
def ValT.sub : ValT → Bool → Nat → List AV
  | .mk _ _ _ _ f _ _ _, false, i => [.lit (.int .i64 (f i).kind), .lit (.int .u64 (f i).num), .lit (.string (f i).text), .ro 6 (f i).n (fun j => (f i).sub false j), .lit (.int .i64 (f i).kof), .ro 6 (f i).nd (fun j => (f i).sub true j)]
  | .mk _ _ _ _ _ _ _ g, true, i => [.lit (.int .i64 (g i).kind), .lit (.int .u64 (g i).num), .lit (.string (g i).text), .ro 6 (g i).n (fun j => (g i).sub false j), .lit (.int .i64 (g i).kof), .ro 6 (g i).nd (fun j => (g i).sub true j)]
  | .nul, _, _ => []
def vcl (p : ValT) : List AV := [.lit (.int .i64 p.kind), .lit (.int .u64 p.num), .lit (.string p.text), .ro 6 p.n (fun j => p.sub false j), .lit (.int .i64 p.kof), .ro 6 p.nd (fun j => p.sub true j)]
def vAV (p : ValT) : AV := .agg (vcl p)
/-- a value by its parts -/
def vmk (k u : Int) (t : ByteArray) (n : Nat) (f : Nat → ValT) (o : Int) (d : Nat) (g : Nat → ValT) : List AV :=
  [.lit (.int .i64 k), .lit (.int .u64 u), .lit (.string t), .ro 6 n (fun i => vcl (f i)), .lit (.int .i64 o), .ro 6 d (fun i => vcl (g i))]
/-- A value, by the parts that it has. -/
def vparts (p : ValT) : List AV := vmk p.kind p.num p.text p.n p.kidf p.kof p.nd p.dscf
theorem vparts_le (p : ValT) : Le (vAV p) (.agg (vparts p)) := by
  cases p with
  | nul => exact Le_agg ⟨Le.refl _, Le.refl _, Le.refl _, Le_ro (fun i hi => absurd hi (Nat.not_lt_zero i)), Le.refl _, Le_ro (fun i hi => absurd hi (Nat.not_lt_zero i)), trivial⟩
  | mk k u t n f o d g => exact Le.refl _
/-! ### Short words for the printed texts -/
abbrev iL (n : Int) : AV := .lit (.int .i64 n)
abbrev uL (n : Int) : AV := .lit (.int .u64 n)
abbrev bL (b : Bool) : AV := .lit (.bool b)
abbrev sL (t : ByteArray) : AV := .lit (.string t)
abbrev nL : AV := .lit (.slice none 0 0)
abbrev nI : AV := .lit .nilIface
abbrev kA (n : Nat) (f : Nat → ValT) : AV := .ro 6 n (fun i => vcl (f i))
abbrev fR (st : Int) (sh : Bool) : Row := .cells 48 2 [.lit (.int .u64 st), .lit (.bool sh)]
abbrev vR (cs : List AV) : Row := .cells 25 6 cs
abbrev bF (k : Nat) (bs : List UInt8) (i : Int) : Row := .cells 78 2 [.own k 0 bs.length none, .lit (.int .i64 i)]
abbrev A0 := ACalls Go.Proofs.Tryd.prog noG
abbrev C0 := CodeC Go.Proofs.Tryd.prog noG
abbrev shO (kd : Int) : Int := mgetI [(4, 82), (5, 83), (8, 84), (9, 85), (18, 160), (19, 161), (20, 163)] kd 0
abbrev cO (cs cc : Int) : AV := .ro 1 2 (fun i => ([.lit (.int .i64 cs), .lit (.int .i64 cc)].drop (0 + i * 1)).take 1)
abbrev pO (m : Nat) (cf : Nat → Int) (df : Nat → List UInt8) : AV := .ro 2 m (fun i => [.lit (.int .i64 (cf i)), .bts (df i)])
abbrev eX (n : Nat) (f : Nat → ValT) (z8 : AV) (c : Int) (dat : AV) (al : Bool) (cs cc r : Int) : List (Nat × AV) := [(0, .ptr 0 0), (2, kA n f), (8, z8), (10, iL c), (11, dat), (12, bL al), (25, cO cs cc), (26, iL 2), (27, iL r)]
abbrev eK (n : Nat) (f : Nat → ValT) (z8 : AV) (c : Int) (dat : AV) (al : Bool) (cs cc r i : Int) : List (Nat × AV) := [(0, .ptr 0 0), (2, kA n f), (8, z8), (10, iL c), (11, dat), (12, bL al), (25, cO cs cc), (26, iL 2), (27, iL r), (33, kA n f), (34, iL n), (35, iL i)]
abbrev eJ (n : Nat) (f : Nat → ValT) (z8 : AV) (c : Int) (dat : AV) (al fd : Bool) (cs cc r i : Int) : List (Nat × AV) := [(0, .ptr 0 0), (2, kA n f), (8, z8), (10, iL c), (11, dat), (12, bL al), (15, bL fd), (25, cO cs cc), (26, iL 2), (27, iL r), (33, kA n f), (34, iL n), (35, iL i)]
abbrev eI (n : Nat) (f : Nat → ValT) (z8 : AV) (c : Int) (dat : AV) (al fd : Bool) (cs cc r i : Int) (m : Nat) (cf : Nat → Int) (df : Nat → List UInt8) (j : Int) : List (Nat × AV) := [(0, .ptr 0 0), (2, kA n f), (8, z8), (10, iL c), (11, dat), (12, bL al), (15, bL fd), (25, cO cs cc), (26, iL 2), (27, iL r), (33, kA n f), (34, iL n), (35, iL i), (42, pO m cf df), (43, iL m), (44, iL j)]
abbrev N0 (b : Bool) : Prop := b = true → AllP []
abbrev N1 (b : Bool) : Prop := b = true → AllP [b = true]
abbrev N2 (b : Bool) : Prop := b = true → AllP [b = true, b = true]
theorem hA0 {p : Prop} (_ : p) : AllP [] := trivial
theorem AN : AllP [] := trivial
theorem lR {l : List AV} : leAll l l := leAll_refl l
theorem rR {r : Row} : RowLe r r := RowLe.refl r
/-- What a law of reading is given: a value, its forms, what stands behind it, how much is cut off. -/
def hcells (p : ValT) (fs : Int) (bh : List UInt8) (ct : Int) : List AV :=
  [.lit (.int .i64 p.kind), .lit (.int .u64 p.num), .lit (.string p.text), .ro 6 p.n (fun j => p.sub false j), .lit (.int .i64 p.kof), .ro 6 p.nd (fun j => p.sub true j), .lit (.int .u64 fs), .bts bh, .lit (.int .i64 ct)]
def hAV (p : ValT) (fs : Int) (bh : List UInt8) (ct : Int) : AV := .agg (hcells p fs bh ct)
/-- An error of some type, where the package's variable lies. -/
def gO (b : Nat) (u0 : Nat) : Env := fun g => bif Nat.beq g b then some [.ifc u0 .dead] else none

section
variable {P : Program} {G : Env}
/-- A row among the slots, by value. -/
theorem CodeC.freezeIn {n : Nat} {c : Code} {vals vals' : List (Nat × AV)} {H H' : List Row} {ex : AExit} (k : Nat) {r : Row} (hk : H[k]? = some r) (hc : canFrz r = true)
    (h : CodeC P G n c (vals.map fun x => (x.1, x.2.frz k r)) (frzH k r 0 H) ex vals' H') : CodeC P G n c vals H ex vals' H' := by
  intro O ρ a w S hn hv
  obtain ⟨O1, S1, F1, V1⟩ := freeze S hk hc
  refine wp_mono (h O1 ρ a w S1 hn fun t av ht => ?_) fun e a' w' ⟨ρ', O', q1, q2, q3, q4, q5, q6⟩ => ⟨ρ', O', q1, q2, q3, q4, q5, F1.trans q6⟩
  obtain ⟨⟨t0, a0⟩, hm, he⟩ := List.mem_map.1 ht
  simp only [Prod.mk.injEq] at he
  obtain ⟨rfl, rfl⟩ := he
  exact V1 _ _ (hv t0 a0 hm)
end
end Go.Ax
