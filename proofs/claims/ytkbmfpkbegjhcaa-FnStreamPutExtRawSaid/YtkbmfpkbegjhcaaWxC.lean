/-
  The Writer: what its operations write, each by a contract.
-/
import Derived.Test.YtkbmfpkbegjhcaaWxB
import Derived.Test.YtkbmfpkbegjhcaaAx33
import Derived.Test.YtkbmfpkbegjhcaaPk
set_option linter.unusedVariables false
set_option linter.unusedSimpArgs false
set_option maxRecDepth 100000
namespace Go.Ax
open Go.Proofs

def wrow (N n : Nat) : Row := .cells 78 3 [.ifc 71 (.ptr 1 0), .own 2 0 N (some N), .lit (.int .i64 n)]
def tnil : Row := .cells 69 1 [.lit (.slice none 0 0)]
def town (i : Nat) (out : List UInt8) : Row := .cells 69 1 [.own i 0 out.length none]
def rN (N n : Nat) (buf : List UInt8) : List Row := [wrow N n, tnil, .bytes 5 buf]
def rO (N n : Nat) (buf out : List UInt8) : List Row := [wrow N n, town 3 out, .bytes 5 buf, .bytes 5 out]
def rM (N n : Nat) (buf out : List UInt8) : List Row := [wrow N n, town 4 out, .bytes 5 buf, .gone, .bytes 5 out]
def rS (N n : Nat) (buf : List UInt8) : Option (List UInt8) → List Row
  | none => rN N n buf
  | some out => rO N n buf out
def cont (o : Option (List UInt8)) (buf : List UInt8) (n : Nat) : List UInt8 := o.getD [] ++ buf.take n
def nilE : AV := .lit .nilIface

theorem toM {f : FuncId} {args : List AV} {N n N0 n0 : Nat} {buf out buf0 out0 : List UInt8} (h : ACalls Try.prog noG f args (rO N0 n0 buf0 out0) nilE (rO N n buf out)) :
    ACalls Try.prog noG f args (rO N0 n0 buf0 out0) nilE (rM N n buf out) :=
  h.pack [some 0, some 1, some 2, none, some 3] rfl

def bigO : Nat := 100000000000

theorem textN (N n : Nat) (buf : List UInt8) (h0 : 0 < n) (hn : n ≤ buf.length) (hb : buf.length ≤ bigO) :
    ACalls Try.prog noG 60 [.ptr 0 0, .own 1 0 n (some N)] [tnil, .bytes 5 buf] (.tup [.lit (.int .i64 n), nilE]) [town 2 (buf.take n), .bytes 5 buf, .bytes 5 (buf.take n)] := by
  simp [bigO] at hb
  exact (txn N n buf (by simp [AllP]; omega)).cast rfl rfl rfl (by simp [town])

theorem textO (N n : Nat) (buf out : List UInt8) (hn : n ≤ buf.length) (hb : buf.length ≤ bigO) (ho : out.length ≤ bigO) :
    ACalls Try.prog noG 60 [.ptr 0 0, .own 1 0 n (some N)] [town 2 out, .bytes 5 buf, .bytes 5 out] (.tup [.lit (.int .i64 n), nilE]) [town 3 (out ++ buf.take n), .bytes 5 buf, .gone, .bytes 5 (out ++ buf.take n)] := by
  simp [bigO] at hb ho
  exact (txo N n buf out (by simp [AllP]; omega)).cast rfl rfl rfl (by simp [town, List.take_of_length_le])

theorem flushN (N n : Nat) (buf : List UInt8) (h0 : 0 < n) (hn : n ≤ N) (hN : buf.length = N) (hb : N ≤ bigO) : ACalls Try.prog noG 32 [.ptr 0 0] (rN N n buf) nilE (rO N 0 buf (buf.take n)) :=
  ffn N n buf (buf.take n) (by
    have t := textN N n buf h0 (by omega) (by omega)
    simp only [AllP, leAll]
    refine ⟨Nat.le_refl _, trivial, t, ⟨Le.refl _, ?_, trivial⟩, ⟨RowLe.refl _, RowLe.refl _, trivial⟩, ⟨Int.le_refl _, by omega, .inl (by omega)⟩, by simp; omega, trivial⟩
    simp)
theorem flushO (N n : Nat) (buf out : List UInt8) (h0 : 0 < n) (hn : n ≤ N) (hN : buf.length = N) (hb : N ≤ bigO) (ho : out.length ≤ bigO) : ACalls Try.prog noG 32 [.ptr 0 0] (rO N n buf out) nilE (rM N 0 buf (out ++ buf.take n)) :=
  ffo N n buf out (out ++ buf.take n) (by
    have t := textO N n buf out (by omega) (by omega) ho
    simp only [AllP, leAll]
    refine ⟨Nat.le_refl _, trivial, t, ⟨Le.refl _, ?_, trivial⟩, ⟨RowLe.refl _, RowLe.refl _, RowLe.refl _, trivial⟩, ⟨Int.le_refl _, by omega, .inl (by omega)⟩, by simp; omega, trivial⟩
    simp)
theorem flushN0 (N : Nat) (buf : List UInt8) : ACalls Try.prog noG 32 [.ptr 0 0] (rN N 0 buf) nilE (rN N 0 buf) := fzn N buf ⟨rfl, trivial⟩
theorem flushO0 (N : Nat) (buf out : List UInt8) : ACalls Try.prog noG 32 [.ptr 0 0] (rO N 0 buf out) nilE (rM N 0 buf out) := toM (fzo N buf out ⟨rfl, trivial⟩)

/-- A Writer's operation writes these bytes. -/
def Writes (f : FuncId) (args : List AV) (enc : List UInt8) : Prop :=
  ∀ (N n : Nat) (buf : List UInt8), 18 ≤ N → N ≤ 65536 → buf.length = N → n ≤ N →
    (∃ o2 buf2 n2, buf2.length = N ∧ n2 ≤ N ∧ cont o2 buf2 n2 = buf.take n ++ enc ∧ ACalls Try.prog noG f (.ptr 0 0 :: args) (rN N n buf) nilE (rS N n2 buf2 o2)) ∧
    ∀ out, out.length + n + enc.length ≤ bigO → ∃ out2 buf2 n2, buf2.length = N ∧ n2 ≤ N ∧ out2 ++ buf2.take n2 = out ++ buf.take n ++ enc ∧ ACalls Try.prog noG f (.ptr 0 0 :: args) (rO N n buf out) nilE (rM N n2 buf2 out2)

end Go.Ax
