/-
  The Writer: what its operations write, each by a contract.
-/
import Derived.Test.YtmaofopbhlcgkaaStB
import Derived.Test.YtmaofopbhlcgkaaAx26
import Derived.Test.YtmaofopbhlcgkaaBhC
set_option linter.unusedVariables false
set_option linter.unusedSimpArgs false
set_option maxRecDepth 100000
namespace Go.Ax
open Go.Proofs

def wrow (N n : Nat) : Row := .cells 124 3 [.ifc 106 (.ptr 1 0), .own 2 0 N (some N), .lit (.int .i64 n)]
def tnil : Row := .cells 104 1 [.lit (.slice none 0 0)]
def town (i : Nat) (out : List UInt8) : Row := .cells 104 1 [.own i 0 out.length none]
def rN (N n : Nat) (buf : List UInt8) : List Row := [wrow N n, tnil, .bytes 5 buf]
def rO (N n : Nat) (buf out : List UInt8) : List Row := [wrow N n, town 3 out, .bytes 5 buf, .bytes 5 out]
def rM (N n : Nat) (buf out : List UInt8) : List Row := [wrow N n, town 4 out, .bytes 5 buf, .gone, .bytes 5 out]
def rS (N n : Nat) (buf : List UInt8) : Option (List UInt8) → List Row
  | none => rN N n buf
  | some out => rO N n buf out
def cont (o : Option (List UInt8)) (buf : List UInt8) (n : Nat) : List UInt8 := o.getD [] ++ buf.take n
def nilE : AV := .lit .nilIface

theorem toM {f : FuncId} {args : List AV} {N n N0 n0 : Nat} {buf out buf0 out0 : List UInt8} (h : ACalls Try.prog noG f args (rO N0 n0 buf0 out0) nilE (rO N n buf out)) :
    ACalls Try.prog noG f args (rO N0 n0 buf0 out0) nilE (rM N n buf out) :=
  h.pack [some 0, some 1, some 2, none, some 3] rfl

def bigO : Nat := 100000000000

theorem textN (N n : Nat) (buf : List UInt8) (h0 : 0 < n) (hn : n ≤ buf.length) (hb : buf.length ≤ bigO) :
    ACalls Try.prog noG 100 [.ptr 0 0, .own 1 0 n (some N)] [tnil, .bytes 5 buf] (.tup [.lit (.int .i64 n), nilE]) [town 2 (buf.take n), .bytes 5 buf, .bytes 5 (buf.take n)] := by
  simp [bigO] at hb
  exact (txn N n buf (by simp [AllP]; omega)).cast rfl rfl rfl (by simp [town])

theorem textO (N n : Nat) (buf out : List UInt8) (hn : n ≤ buf.length) (hb : buf.length ≤ bigO) (ho : out.length ≤ bigO) :
    ACalls Try.prog noG 100 [.ptr 0 0, .own 1 0 n (some N)] [town 2 out, .bytes 5 buf, .bytes 5 out] (.tup [.lit (.int .i64 n), nilE]) [town 3 (out ++ buf.take n), .bytes 5 buf, .gone, .bytes 5 (out ++ buf.take n)] := by
  simp [bigO] at hb ho
  exact (txo N n buf out (by simp [AllP]; omega)).cast rfl rfl rfl (by simp [town, List.take_of_length_le])

theorem flushN (N n : Nat) (buf : List UInt8) (h0 : 0 < n) (hn : n ≤ N) (hN : buf.length = N) (hb : N ≤ bigO) : ACalls Try.prog noG 76 [.ptr 0 0] (rN N n buf) nilE (rO N 0 buf (buf.take n)) :=
  ffn N n buf (buf.take n) (by
    have t := textN N n buf h0 (by omega) (by omega)
    simp only [AllP, leAll]
    refine ⟨Nat.le_refl _, trivial, t, ⟨Le.refl _, ?_, trivial⟩, ⟨RowLe.refl _, RowLe.refl _, trivial⟩, ⟨Int.le_refl _, by omega, .inl (by omega)⟩, by simp; omega, trivial⟩
    simp)
theorem flushO (N n : Nat) (buf out : List UInt8) (h0 : 0 < n) (hn : n ≤ N) (hN : buf.length = N) (hb : N ≤ bigO) (ho : out.length ≤ bigO) : ACalls Try.prog noG 76 [.ptr 0 0] (rO N n buf out) nilE (rM N 0 buf (out ++ buf.take n)) :=
  ffo N n buf out (out ++ buf.take n) (by
    have t := textO N n buf out (by omega) (by omega) ho
    simp only [AllP, leAll]
    refine ⟨Nat.le_refl _, trivial, t, ⟨Le.refl _, ?_, trivial⟩, ⟨RowLe.refl _, RowLe.refl _, RowLe.refl _, trivial⟩, ⟨Int.le_refl _, by omega, .inl (by omega)⟩, by simp; omega, trivial⟩
    simp)
theorem flushN0 (N : Nat) (buf : List UInt8) : ACalls Try.prog noG 76 [.ptr 0 0] (rN N 0 buf) nilE (rN N 0 buf) := fzn N buf ⟨rfl, trivial⟩
theorem flushO0 (N : Nat) (buf out : List UInt8) : ACalls Try.prog noG 76 [.ptr 0 0] (rO N 0 buf out) nilE (rM N 0 buf out) := toM (fzo N buf out ⟨rfl, trivial⟩)

/-- A Writer's operation writes these bytes. -/
def Writes (f : FuncId) (args : List AV) (enc : List UInt8) : Prop :=
  ∀ (N n : Nat) (buf : List UInt8), 18 ≤ N → N ≤ 65536 → buf.length = N → n ≤ N →
    (∃ o2 buf2 n2, buf2.length = N ∧ n2 ≤ N ∧ cont o2 buf2 n2 = buf.take n ++ enc ∧ ACalls Try.prog noG f (.ptr 0 0 :: args) (rN N n buf) nilE (rS N n2 buf2 o2)) ∧
    ∀ out, out.length ≤ bigO → ∃ out2 buf2 n2, buf2.length = N ∧ n2 ≤ N ∧ out2 ++ buf2.take n2 = out ++ buf.take n ++ enc ∧ ACalls Try.prog noG f (.ptr 0 0 :: args) (rO N n buf out) nilE (rM N n2 buf2 out2)

theorem take_set_succ (buf : List UInt8) (n : Nat) (x : UInt8) (h : n < buf.length) : (buf.set n x).take (n + 1) = buf.take n ++ [x] := by
  rw [List.take_add_one, List.take_set_of_le (Nat.le_refl n)]
  simp [h]

theorem writesPush (b : UInt8) : Writes 63 [.lit (.int .u8 b.toNat)] [b] := fun N n buf h18 hN hb hn => by
  have hbl : (b.toNat : Int) < 256 := by have := b.toNat_lt; omega
  have hbb : UInt8.ofNat (b.toNat : Int).toNat = b := by simp
  by_cases he : n = N
  · subst he
    refine ⟨⟨some (buf.take n), buf.set 0 b, 1, by simp [hb], by omega, ?_, ?_⟩, fun out ho => ⟨out ++ buf.take n, buf.set 0 b, 1, by simp [hb], by omega, ?_, ?_⟩⟩
    · simp [cont, take_set_succ buf 0 b (by omega)]
    · refine (pbn n n buf (buf.take n) b.toNat ?_).cast rfl rfl rfl (by rw [hbb]; rfl)
      have := flushN n n buf (by omega) (Nat.le_refl _) hb (by simp [bigO]; omega)
      simp only [AllP, leAll]
      refine ⟨by decide, ⟨by omega, by omega, hbl⟩, ⟨Int.le_refl _, by omega⟩, trivial, this, ⟨Le.refl _, trivial⟩, ⟨RowLe.refl _, RowLe.refl _, RowLe.refl _, trivial⟩, by simp, trivial⟩
    · simp [take_set_succ buf 0 b (by omega)]
    · refine (pbo n n buf out (out ++ buf.take n) b.toNat ?_).cast rfl rfl rfl (by rw [hbb]; rfl)
      have := flushO n n buf out (by omega) (Nat.le_refl _) hb (by simp [bigO]; omega) ho
      simp only [AllP, leAll]
      refine ⟨by decide, ⟨by omega, by omega, hbl⟩, ⟨Int.le_refl _, by omega⟩, trivial, this, ⟨Le.refl _, trivial⟩, ⟨RowLe.refl _, RowLe.refl _, RowLe.refl _, RowLe.refl _, trivial⟩, by simp, trivial⟩
  · have hw : IntKind.i64.wrap ((n : Int) + 1) = ((n + 1 : Nat) : Int) := by rw [wrap64 (by omega) (by omega)]; simp
    refine ⟨⟨none, buf.set n b, n + 1, by simp [hb], by omega, ?_, ?_⟩, fun out ho => ⟨out, buf.set n b, n + 1, by simp [hb], by omega, ?_, toM ?_⟩⟩
    · simp [cont, take_set_succ buf n b (by omega)]
    · refine (pan N n buf b.toNat ?_).cast rfl rfl rfl (by rw [hbb, hw]; simp [rS, rN, wrow, tnil])
      simp [AllP, hbl]; omega
    · simp [take_set_succ buf n b (by omega)]
    · refine (pao N n buf out b.toNat ?_).cast rfl rfl rfl (by rw [hbb, hw]; simp [rO, wrow, town])
      simp [AllP, hbl]; omega

theorem take_set2 (buf : List UInt8) (n : Nat) (x y : UInt8) (h : n + 1 < buf.length) : ((buf.set n x).set (n + 1) y).take (n + 2) = buf.take n ++ [x, y] := by
  rw [take_set_succ _ (n + 1) y (by simpa using h), take_set_succ buf n x (by omega)]; simp
theorem take_set3 (buf : List UInt8) (n : Nat) (x y z : UInt8) (h : n + 2 < buf.length) : (((buf.set n x).set (n + 1) y).set (n + 2) z).take (n + 3) = buf.take n ++ [x, y, z] := by
  rw [take_set_succ _ (n + 2) z (by simpa using h), take_set2 buf n x y (by omega)]; simp
theorem take_set5 (buf : List UInt8) (n : Nat) (x y z u v : UInt8) (h : n + 4 < buf.length) : (((((buf.set n x).set (n + 1) y).set (n + 2) z).set (n + 3) u).set (n + 4) v).take (n + 5) = buf.take n ++ [x, y, z, u, v] := by
  rw [take_set_succ _ (n + 4) v (by simpa using h), take_set_succ _ (n + 3) u (by simp; omega), take_set3 buf n x y z (by omega)]; simp

def set2 (buf : List UInt8) (n : Nat) (x y : UInt8) : List UInt8 := (buf.set n x).set (n + 1) y
def set3 (buf : List UInt8) (n : Nat) (x y z : UInt8) : List UInt8 := ((buf.set n x).set (n + 1) y).set (n + 2) z
def set5 (buf : List UInt8) (n : Nat) (x y z u v : UInt8) : List UInt8 := ((((buf.set n x).set (n + 1) y).set (n + 2) z).set (n + 3) u).set (n + 4) v

theorem preB8 (n m : Nat) (buf : List UInt8) (c : UInt8) (v : Nat) (hv : v < 256) (hm : 2 ≤ m) (h : n + 1 < buf.length) :
    ACalls Try.prog noG 52 [.own 0 n m (some m), .lit (.int .u8 c.toNat), .lit (.int .u8 v)] [.bytes 5 buf] (.tup []) [.bytes 5 (set2 buf n c (UInt8.ofNat v))] := by
  have hc : (c.toNat : Int) < 256 := by have := c.toNat_lt; omega
  refine (q52 n m buf c.toNat v ?_).cast rfl rfl rfl (by simp [set2])
  simp [AllP, hc]; omega
theorem preB16 (n m : Nat) (buf : List UInt8) (c : UInt8) (v : Nat) (hv : v < 65536) (hm : 3 ≤ m) (h : n + 2 < buf.length) :
    ACalls Try.prog noG 53 [.own 0 n m (some m), .lit (.int .u8 c.toNat), .lit (.int .u16 v)] [.bytes 5 buf] (.tup []) [.bytes 5 (set3 buf n c (UInt8.ofNat (v / 256)) (UInt8.ofNat (v % 256)))] := by
  have hc : (c.toNat : Int) < 256 := by have := c.toNat_lt; omega
  have f1 : (v : Int).fdiv 256 = ((v / 256 : Nat) : Int) := by rw [Int.fdiv_eq_ediv_of_nonneg _ (by omega)]; omega
  have g1 : IntKind.u8.wrap ((v / 256 : Nat) : Int) = ((v / 256 : Nat) : Int) := by rw [wrapU8]; omega
  have g2 : IntKind.u8.wrap (v : Int) = ((v % 256 : Nat) : Int) := by rw [wrapU8]; omega
  refine (q53 n m buf c.toNat v ?_).cast rfl rfl rfl (by rw [f1, g1, g2]; simp only [set3, Int.toNat_natCast, UInt8.ofNat_toNat, Nat.add_zero])
  rw [f1, g1, g2]
  simp only [AllP, List.length_set]
  refine ⟨⟨by omega, by omega, by omega⟩, ⟨by omega, by omega⟩, ⟨by omega, by omega, by omega⟩, ⟨by omega, by omega⟩, by omega, ⟨by omega, by omega, hc⟩, ⟨by omega, by omega⟩, by omega, ⟨by omega, by omega⟩, trivial⟩
theorem preB32 (n m : Nat) (buf : List UInt8) (c : UInt8) (v : Nat) (hv : v < 4294967296) (hm : 5 ≤ m) (h : n + 4 < buf.length) :
    ACalls Try.prog noG 54 [.own 0 n m (some m), .lit (.int .u8 c.toNat), .lit (.int .u32 v)] [.bytes 5 buf] (.tup [])
      [.bytes 5 (set5 buf n c (UInt8.ofNat (v / 16777216)) (UInt8.ofNat (v / 65536 % 256)) (UInt8.ofNat (v / 256 % 256)) (UInt8.ofNat (v % 256)))] := by
  have hc : (c.toNat : Int) < 256 := by have := c.toNat_lt; omega
  have f1 : (v : Int).fdiv 256 = ((v / 256 : Nat) : Int) := by rw [Int.fdiv_eq_ediv_of_nonneg _ (by omega)]; omega
  have f2 : (v : Int).fdiv 65536 = ((v / 65536 : Nat) : Int) := by rw [Int.fdiv_eq_ediv_of_nonneg _ (by omega)]; omega
  have f3 : (v : Int).fdiv 16777216 = ((v / 16777216 : Nat) : Int) := by rw [Int.fdiv_eq_ediv_of_nonneg _ (by omega)]; omega
  have g1 : IntKind.u8.wrap ((v / 256 : Nat) : Int) = ((v / 256 % 256 : Nat) : Int) := by rw [wrapU8]; omega
  have g2 : IntKind.u8.wrap ((v / 65536 : Nat) : Int) = ((v / 65536 % 256 : Nat) : Int) := by rw [wrapU8]; omega
  have g3 : IntKind.u8.wrap ((v / 16777216 : Nat) : Int) = ((v / 16777216 : Nat) : Int) := by rw [wrapU8]; omega
  have g4 : IntKind.u8.wrap (v : Int) = ((v % 256 : Nat) : Int) := by rw [wrapU8]; omega
  refine (q54 n m buf c.toNat v ?_).cast rfl rfl rfl (by rw [f1, f2, f3, g1, g2, g3, g4]; simp only [set5, Int.toNat_natCast, UInt8.ofNat_toNat, Nat.add_zero])
  rw [f1, f2, f3, g1, g2, g3, g4]
  simp only [AllP, List.length_set]
  refine ⟨?_, ?_, ?_, ?_, ?_, ?_, ?_, ?_, ?_, ?_, ?_, ?_, ?_, ?_, ?_, trivial⟩ <;> omega

theorem writesPre65 (c : UInt8) (v : Nat) (hv : v < 256) : Writes 65 [.lit (.int .u8 c.toNat), .lit (.int .u8 v)] [c, (UInt8.ofNat v)] := fun N n buf h18 hN hb hn => by
  by_cases he : N < n + 2
  · have w : IntKind.i64.wrap ((N : Int) - n) = (N : Int) - n := wrap64 (by omega) (by omega)
    have p := preB8 0 N buf c v hv (by omega) (by omega)
    refine ⟨⟨some (buf.take n), set2 buf 0 c (UInt8.ofNat v), 2, by simp [set2, hb], by omega, ?_, ?_⟩, fun out ho => ⟨out ++ buf.take n, set2 buf 0 c (UInt8.ofNat v), 2, by simp [set2, hb], by omega, ?_, ?_⟩⟩
    · have := take_set2 buf 0 c (UInt8.ofNat v) (by omega)
      simp only [Nat.zero_add] at this
      simp [cont, set2, this]
    · refine (x65bn N n N buf (buf.take n) (set2 buf 0 c (UInt8.ofNat v)) c.toNat v ?_).cast rfl rfl rfl rfl
      have := flushN N n buf (by omega) hn hb (by simp [bigO]; omega)
      simp only [AllP, leAll]
      refine ⟨by decide, p, ⟨Le.refl _, Le.refl _, Le.refl _, trivial⟩, ⟨RowLe.refl _, trivial⟩, ⟨Int.le_refl _, by omega, .inl (Int.le_refl _)⟩, trivial, this, ⟨Le.refl _, trivial⟩, ⟨RowLe.refl _, RowLe.refl _, RowLe.refl _, trivial⟩, by rw [w]; simp; omega, trivial⟩
    · have := take_set2 buf 0 c (UInt8.ofNat v) (by omega)
      simp only [Nat.zero_add] at this
      simp [set2, this]
    · refine (x65bo N n N buf out (out ++ buf.take n) (set2 buf 0 c (UInt8.ofNat v)) c.toNat v ?_).cast rfl rfl rfl rfl
      have := flushO N n buf out (by omega) hn hb (by simp [bigO]; omega) ho
      simp only [AllP, leAll]
      refine ⟨by decide, p, ⟨Le.refl _, Le.refl _, Le.refl _, trivial⟩, ⟨RowLe.refl _, trivial⟩, ⟨Int.le_refl _, by omega, .inl (Int.le_refl _)⟩, trivial, this, ⟨Le.refl _, trivial⟩, ⟨RowLe.refl _, RowLe.refl _, RowLe.refl _, RowLe.refl _, trivial⟩, by rw [w]; simp; omega, trivial⟩
  · have w : IntKind.i64.wrap ((N : Int) - n) = (N : Int) - n := wrap64 (by omega) (by omega)
    have w2 : IntKind.i64.wrap ((n : Int) + 2) = ((n + 2 : Nat) : Int) := by rw [wrap64 (by omega) (by omega)]; simp
    have p := preB8 n (N - n) buf c v hv (by omega) (by omega)
    have z : (N : Int).toNat - (n : Int).toNat = N - n := by omega
    refine ⟨⟨none, set2 buf n c (UInt8.ofNat v), n + 2, by simp [set2, hb], by omega, ?_, ?_⟩, fun out ho => ⟨out, set2 buf n c (UInt8.ofNat v), n + 2, by simp [set2, hb], by omega, ?_, toM ?_⟩⟩
    · simp [cont, set2, take_set2 buf n c (UInt8.ofNat v) (by omega)]
    · refine (x65an N n (N - n) buf (set2 buf n c (UInt8.ofNat v)) c.toNat v ?_).cast rfl rfl rfl (by rw [w2]; rfl)
      simp only [AllP, leAll, z]
      refine ⟨by decide, p, ⟨by simp, Le.refl _, Le.refl _, trivial⟩, ⟨RowLe.refl _, trivial⟩, ⟨by omega, by omega, .inl (Int.le_refl _)⟩, by rw [w]; simp; omega, trivial⟩
    · simp [set2, take_set2 buf n c (UInt8.ofNat v) (by omega)]
    · refine (x65ao N n (N - n) buf out (set2 buf n c (UInt8.ofNat v)) c.toNat v ?_).cast rfl rfl rfl (by rw [w2]; rfl)
      simp only [AllP, leAll, z]
      refine ⟨by decide, p, ⟨by simp, Le.refl _, Le.refl _, trivial⟩, ⟨RowLe.refl _, trivial⟩, ⟨by omega, by omega, .inl (Int.le_refl _)⟩, by rw [w]; simp; omega, trivial⟩

theorem writesPre66 (c : UInt8) (v : Nat) (hv : v < 65536) : Writes 66 [.lit (.int .u8 c.toNat), .lit (.int .u16 v)] [c, (UInt8.ofNat (v / 256)), (UInt8.ofNat (v % 256))] := fun N n buf h18 hN hb hn => by
  by_cases he : N < n + 3
  · have w : IntKind.i64.wrap ((N : Int) - n) = (N : Int) - n := wrap64 (by omega) (by omega)
    have p := preB16 0 N buf c v hv (by omega) (by omega)
    refine ⟨⟨some (buf.take n), set3 buf 0 c (UInt8.ofNat (v / 256)) (UInt8.ofNat (v % 256)), 3, by simp [set3, hb], by omega, ?_, ?_⟩, fun out ho => ⟨out ++ buf.take n, set3 buf 0 c (UInt8.ofNat (v / 256)) (UInt8.ofNat (v % 256)), 3, by simp [set3, hb], by omega, ?_, ?_⟩⟩
    · have := take_set3 buf 0 c (UInt8.ofNat (v / 256)) (UInt8.ofNat (v % 256)) (by omega)
      simp only [Nat.zero_add] at this
      simp [cont, set3, this]
    · refine (x66bn N n N buf (buf.take n) (set3 buf 0 c (UInt8.ofNat (v / 256)) (UInt8.ofNat (v % 256))) c.toNat v ?_).cast rfl rfl rfl rfl
      have := flushN N n buf (by omega) hn hb (by simp [bigO]; omega)
      simp only [AllP, leAll]
      refine ⟨by decide, p, ⟨Le.refl _, Le.refl _, Le.refl _, trivial⟩, ⟨RowLe.refl _, trivial⟩, ⟨Int.le_refl _, by omega, .inl (Int.le_refl _)⟩, trivial, this, ⟨Le.refl _, trivial⟩, ⟨RowLe.refl _, RowLe.refl _, RowLe.refl _, trivial⟩, by rw [w]; simp; omega, trivial⟩
    · have := take_set3 buf 0 c (UInt8.ofNat (v / 256)) (UInt8.ofNat (v % 256)) (by omega)
      simp only [Nat.zero_add] at this
      simp [set3, this]
    · refine (x66bo N n N buf out (out ++ buf.take n) (set3 buf 0 c (UInt8.ofNat (v / 256)) (UInt8.ofNat (v % 256))) c.toNat v ?_).cast rfl rfl rfl rfl
      have := flushO N n buf out (by omega) hn hb (by simp [bigO]; omega) ho
      simp only [AllP, leAll]
      refine ⟨by decide, p, ⟨Le.refl _, Le.refl _, Le.refl _, trivial⟩, ⟨RowLe.refl _, trivial⟩, ⟨Int.le_refl _, by omega, .inl (Int.le_refl _)⟩, trivial, this, ⟨Le.refl _, trivial⟩, ⟨RowLe.refl _, RowLe.refl _, RowLe.refl _, RowLe.refl _, trivial⟩, by rw [w]; simp; omega, trivial⟩
  · have w : IntKind.i64.wrap ((N : Int) - n) = (N : Int) - n := wrap64 (by omega) (by omega)
    have w2 : IntKind.i64.wrap ((n : Int) + 3) = ((n + 3 : Nat) : Int) := by rw [wrap64 (by omega) (by omega)]; simp
    have p := preB16 n (N - n) buf c v hv (by omega) (by omega)
    have z : (N : Int).toNat - (n : Int).toNat = N - n := by omega
    refine ⟨⟨none, set3 buf n c (UInt8.ofNat (v / 256)) (UInt8.ofNat (v % 256)), n + 3, by simp [set3, hb], by omega, ?_, ?_⟩, fun out ho => ⟨out, set3 buf n c (UInt8.ofNat (v / 256)) (UInt8.ofNat (v % 256)), n + 3, by simp [set3, hb], by omega, ?_, toM ?_⟩⟩
    · simp [cont, set3, take_set3 buf n c (UInt8.ofNat (v / 256)) (UInt8.ofNat (v % 256)) (by omega)]
    · refine (x66an N n (N - n) buf (set3 buf n c (UInt8.ofNat (v / 256)) (UInt8.ofNat (v % 256))) c.toNat v ?_).cast rfl rfl rfl (by rw [w2]; rfl)
      simp only [AllP, leAll, z]
      refine ⟨by decide, p, ⟨by simp, Le.refl _, Le.refl _, trivial⟩, ⟨RowLe.refl _, trivial⟩, ⟨by omega, by omega, .inl (Int.le_refl _)⟩, by rw [w]; simp; omega, trivial⟩
    · simp [set3, take_set3 buf n c (UInt8.ofNat (v / 256)) (UInt8.ofNat (v % 256)) (by omega)]
    · refine (x66ao N n (N - n) buf out (set3 buf n c (UInt8.ofNat (v / 256)) (UInt8.ofNat (v % 256))) c.toNat v ?_).cast rfl rfl rfl (by rw [w2]; rfl)
      simp only [AllP, leAll, z]
      refine ⟨by decide, p, ⟨by simp, Le.refl _, Le.refl _, trivial⟩, ⟨RowLe.refl _, trivial⟩, ⟨by omega, by omega, .inl (Int.le_refl _)⟩, by rw [w]; simp; omega, trivial⟩

theorem writesPre67 (c : UInt8) (v : Nat) (hv : v < 4294967296) : Writes 67 [.lit (.int .u8 c.toNat), .lit (.int .u32 v)] [c, (UInt8.ofNat (v / 16777216)), (UInt8.ofNat (v / 65536 % 256)), (UInt8.ofNat (v / 256 % 256)), (UInt8.ofNat (v % 256))] := fun N n buf h18 hN hb hn => by
  by_cases he : N < n + 5
  · have w : IntKind.i64.wrap ((N : Int) - n) = (N : Int) - n := wrap64 (by omega) (by omega)
    have p := preB32 0 N buf c v hv (by omega) (by omega)
    refine ⟨⟨some (buf.take n), set5 buf 0 c (UInt8.ofNat (v / 16777216)) (UInt8.ofNat (v / 65536 % 256)) (UInt8.ofNat (v / 256 % 256)) (UInt8.ofNat (v % 256)), 5, by simp [set5, hb], by omega, ?_, ?_⟩, fun out ho => ⟨out ++ buf.take n, set5 buf 0 c (UInt8.ofNat (v / 16777216)) (UInt8.ofNat (v / 65536 % 256)) (UInt8.ofNat (v / 256 % 256)) (UInt8.ofNat (v % 256)), 5, by simp [set5, hb], by omega, ?_, ?_⟩⟩
    · have := take_set5 buf 0 c (UInt8.ofNat (v / 16777216)) (UInt8.ofNat (v / 65536 % 256)) (UInt8.ofNat (v / 256 % 256)) (UInt8.ofNat (v % 256)) (by omega)
      simp only [Nat.zero_add] at this
      simp [cont, set5, this]
    · refine (x67bn N n N buf (buf.take n) (set5 buf 0 c (UInt8.ofNat (v / 16777216)) (UInt8.ofNat (v / 65536 % 256)) (UInt8.ofNat (v / 256 % 256)) (UInt8.ofNat (v % 256))) c.toNat v ?_).cast rfl rfl rfl rfl
      have := flushN N n buf (by omega) hn hb (by simp [bigO]; omega)
      simp only [AllP, leAll]
      refine ⟨by decide, p, ⟨Le.refl _, Le.refl _, Le.refl _, trivial⟩, ⟨RowLe.refl _, trivial⟩, ⟨Int.le_refl _, by omega, .inl (Int.le_refl _)⟩, trivial, this, ⟨Le.refl _, trivial⟩, ⟨RowLe.refl _, RowLe.refl _, RowLe.refl _, trivial⟩, by rw [w]; simp; omega, trivial⟩
    · have := take_set5 buf 0 c (UInt8.ofNat (v / 16777216)) (UInt8.ofNat (v / 65536 % 256)) (UInt8.ofNat (v / 256 % 256)) (UInt8.ofNat (v % 256)) (by omega)
      simp only [Nat.zero_add] at this
      simp [set5, this]
    · refine (x67bo N n N buf out (out ++ buf.take n) (set5 buf 0 c (UInt8.ofNat (v / 16777216)) (UInt8.ofNat (v / 65536 % 256)) (UInt8.ofNat (v / 256 % 256)) (UInt8.ofNat (v % 256))) c.toNat v ?_).cast rfl rfl rfl rfl
      have := flushO N n buf out (by omega) hn hb (by simp [bigO]; omega) ho
      simp only [AllP, leAll]
      refine ⟨by decide, p, ⟨Le.refl _, Le.refl _, Le.refl _, trivial⟩, ⟨RowLe.refl _, trivial⟩, ⟨Int.le_refl _, by omega, .inl (Int.le_refl _)⟩, trivial, this, ⟨Le.refl _, trivial⟩, ⟨RowLe.refl _, RowLe.refl _, RowLe.refl _, RowLe.refl _, trivial⟩, by rw [w]; simp; omega, trivial⟩
  · have w : IntKind.i64.wrap ((N : Int) - n) = (N : Int) - n := wrap64 (by omega) (by omega)
    have w2 : IntKind.i64.wrap ((n : Int) + 5) = ((n + 5 : Nat) : Int) := by rw [wrap64 (by omega) (by omega)]; simp
    have p := preB32 n (N - n) buf c v hv (by omega) (by omega)
    have z : (N : Int).toNat - (n : Int).toNat = N - n := by omega
    refine ⟨⟨none, set5 buf n c (UInt8.ofNat (v / 16777216)) (UInt8.ofNat (v / 65536 % 256)) (UInt8.ofNat (v / 256 % 256)) (UInt8.ofNat (v % 256)), n + 5, by simp [set5, hb], by omega, ?_, ?_⟩, fun out ho => ⟨out, set5 buf n c (UInt8.ofNat (v / 16777216)) (UInt8.ofNat (v / 65536 % 256)) (UInt8.ofNat (v / 256 % 256)) (UInt8.ofNat (v % 256)), n + 5, by simp [set5, hb], by omega, ?_, toM ?_⟩⟩
    · simp [cont, set5, take_set5 buf n c (UInt8.ofNat (v / 16777216)) (UInt8.ofNat (v / 65536 % 256)) (UInt8.ofNat (v / 256 % 256)) (UInt8.ofNat (v % 256)) (by omega)]
    · refine (x67an N n (N - n) buf (set5 buf n c (UInt8.ofNat (v / 16777216)) (UInt8.ofNat (v / 65536 % 256)) (UInt8.ofNat (v / 256 % 256)) (UInt8.ofNat (v % 256))) c.toNat v ?_).cast rfl rfl rfl (by rw [w2]; rfl)
      simp only [AllP, leAll, z]
      refine ⟨by decide, p, ⟨by simp, Le.refl _, Le.refl _, trivial⟩, ⟨RowLe.refl _, trivial⟩, ⟨by omega, by omega, .inl (Int.le_refl _)⟩, by rw [w]; simp; omega, trivial⟩
    · simp [set5, take_set5 buf n c (UInt8.ofNat (v / 16777216)) (UInt8.ofNat (v / 65536 % 256)) (UInt8.ofNat (v / 256 % 256)) (UInt8.ofNat (v % 256)) (by omega)]
    · refine (x67ao N n (N - n) buf out (set5 buf n c (UInt8.ofNat (v / 16777216)) (UInt8.ofNat (v / 65536 % 256)) (UInt8.ofNat (v / 256 % 256)) (UInt8.ofNat (v % 256))) c.toNat v ?_).cast rfl rfl rfl (by rw [w2]; rfl)
      simp only [AllP, leAll, z]
      refine ⟨by decide, p, ⟨by simp, Le.refl _, Le.refl _, trivial⟩, ⟨RowLe.refl _, trivial⟩, ⟨by omega, by omega, .inl (Int.le_refl _)⟩, by rw [w]; simp; omega, trivial⟩

/-- An operation that hands on. -/
theorem Writes.on {f g : FuncId} {args cargs : List AV} {enc : List UInt8} (h : Writes g cargs enc)
    (nn : ∀ N n n2 buf buf2, ACalls Try.prog noG g (.ptr 0 0 :: cargs) (rN N n buf) nilE (rN N n2 buf2) → ACalls Try.prog noG f (.ptr 0 0 :: args) (rN N n buf) nilE (rN N n2 buf2))
    (no : ∀ N n n2 buf buf2 out2, ACalls Try.prog noG g (.ptr 0 0 :: cargs) (rN N n buf) nilE (rO N n2 buf2 out2) → ACalls Try.prog noG f (.ptr 0 0 :: args) (rN N n buf) nilE (rO N n2 buf2 out2))
    (oo : ∀ N n n2 buf out buf2 out2, ACalls Try.prog noG g (.ptr 0 0 :: cargs) (rO N n buf out) nilE (rM N n2 buf2 out2) → ACalls Try.prog noG f (.ptr 0 0 :: args) (rO N n buf out) nilE (rM N n2 buf2 out2)) :
    Writes f args enc := fun N n buf h18 hN hb hn => by
  obtain ⟨⟨o2, buf2, n2, e1, e2, e3, e4⟩, h2⟩ := h N n buf h18 hN hb hn
  refine ⟨⟨o2, buf2, n2, e1, e2, e3, ?_⟩, fun out ho => ?_⟩
  · cases o2 with
    | none => exact nn N n n2 buf buf2 e4
    | some out2 => exact no N n n2 buf buf2 out2 e4
  · obtain ⟨out2, buf2, n2, e1, e2, e3, e4⟩ := h2 out ho
    exact ⟨out2, buf2, n2, e1, e2, e3, oo N n n2 buf out buf2 out2 e4⟩

theorem writeBool (b : Bool) : Writes 43 [.lit (.bool b)] [codeB b] := by
  cases b with
  | true =>
    rw [show codeB true = 195 from rfl]
    exact Writes.on (writesPush 195) (fun N n n2 buf buf2 h => wbtnn N n n2 buf buf2 (by simp [AllP, leAll]; exact h)) (fun N n n2 buf buf2 out2 h => wbtno N n n2 buf buf2 out2 (by simp [AllP, leAll]; exact h))
      (fun N n n2 buf out buf2 out2 h => wbtoo N n n2 buf out buf2 out2 (by simp [AllP, leAll]; exact h))
  | false =>
    rw [show codeB false = 194 from rfl]
    exact Writes.on (writesPush 194) (fun N n n2 buf buf2 h => wbfnn N n n2 buf buf2 (by simp [AllP, leAll]; exact h)) (fun N n n2 buf buf2 out2 h => wbfno N n n2 buf buf2 out2 (by simp [AllP, leAll]; exact h))
      (fun N n n2 buf out buf2 out2 h => wbfoo N n n2 buf out buf2 out2 (by simp [AllP, leAll]; exact h))

theorem cloBool (b : Bool) : Writes 42 [.lit (.bool b)] [codeB b] :=
  Writes.on (writeBool b) (fun N n n2 buf buf2 h => cbnn N n n2 buf buf2 b (by simp [AllP, leAll]; exact h)) (fun N n n2 buf buf2 out2 h => cbno N n n2 buf buf2 out2 b (by simp [AllP, leAll]; exact h))
      (fun N n n2 buf out buf2 out2 h => cboo N n n2 buf out buf2 out2 b (by simp [AllP, leAll]; exact h))

theorem writeHead (v : Nat) (hv : v < 4294967296) : Writes 47 [.lit (.int .u32 v)] (headB v) := by
  by_cases h1 : v ≤ 255
  · have w : IntKind.u8.wrap (v : Int) = v := by rw [wrapU8]; omega
    have d : (v : Int) ≤ 255 := by omega
    rw [show headB v = [196, UInt8.ofNat v] by simp [headB, h1]]
    exact Writes.on (writesPre65 196 v (by omega)) (fun N n n2 buf buf2 h => whann N n n2 buf buf2 v (by simp [AllP, leAll, w, d]; exact h)) (fun N n n2 buf buf2 out2 h => whano N n n2 buf buf2 out2 v (by simp [AllP, leAll, w, d]; exact h))
      (fun N n n2 buf out buf2 out2 h => whaoo N n n2 buf out buf2 out2 v (by simp [AllP, leAll, w, d]; exact h))
  · by_cases h2 : v ≤ 65535
    · have w : IntKind.u16.wrap (v : Int) = v := by simp only [IntKind.wrap, IntKind.bits, IntKind.signed]; simp; omega
      have d : ¬ (v : Int) ≤ 255 := by omega
      have d2 : (v : Int) ≤ 65535 := by omega
      rw [show headB v = [197, UInt8.ofNat (v / 256), UInt8.ofNat (v % 256)] by simp [headB, h1, h2]]
      exact Writes.on (writesPre66 197 v (by omega)) (fun N n n2 buf buf2 h => whbnn N n n2 buf buf2 v (by simp [AllP, leAll, w, d2]; exact ⟨h, by omega⟩)) (fun N n n2 buf buf2 out2 h => whbno N n n2 buf buf2 out2 v (by simp [AllP, leAll, w, d2]; exact ⟨h, by omega⟩))
        (fun N n n2 buf out buf2 out2 h => whboo N n n2 buf out buf2 out2 v (by simp [AllP, leAll, w, d2]; exact ⟨h, by omega⟩))
    · rw [show headB v = [198, UInt8.ofNat (v / 16777216), UInt8.ofNat (v / 65536 % 256), UInt8.ofNat (v / 256 % 256), UInt8.ofNat (v % 256)] by simp [headB, h1, h2]]
      exact Writes.on (writesPre67 198 v (by omega)) (fun N n n2 buf buf2 h => whcnn N n n2 buf buf2 v (by simp [AllP, leAll]; exact ⟨h, by omega⟩)) (fun N n n2 buf buf2 out2 h => whcno N n n2 buf buf2 out2 v (by simp [AllP, leAll]; exact ⟨h, by omega⟩))
        (fun N n n2 buf out buf2 out2 h => whcoo N n n2 buf out buf2 out2 v (by simp [AllP, leAll]; exact ⟨h, by omega⟩))

theorem cloHead (v : Nat) (hv : v < 4294967296) : Writes 46 [.lit (.int .u32 v)] (headB v) :=
  Writes.on (writeHead v hv) (fun N n n2 buf buf2 h => chnn N n n2 buf buf2 v (by simp [AllP, leAll]; exact h)) (fun N n n2 buf buf2 out2 h => chno N n n2 buf buf2 out2 v (by simp [AllP, leAll]; exact h))
      (fun N n n2 buf out buf2 out2 h => choo N n n2 buf out buf2 out2 v (by simp [AllP, leAll]; exact h))
end Go.Ax
