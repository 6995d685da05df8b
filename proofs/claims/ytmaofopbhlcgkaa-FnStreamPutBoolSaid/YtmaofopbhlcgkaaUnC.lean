/-
  msgp.AppendUint64 of a number below 2^32: its bytes behind those that are there.
-/
import Derived.Test.YtmaofopbhlcgkaaPuB
import Derived.Test.YtmaofopbhlcgkaaUnB
set_option linter.unusedVariables false
set_option linter.unusedSimpArgs false
set_option maxRecDepth 100000
namespace Go.Ax
open Go.Proofs

theorem setL_one (cs : List AV) (n : Nat) (x : AV) : setL cs n [x] = cs.set n x := rfl
theorem set_behind (bs : List UInt8) (l : List AV) (k : Nat) (x : AV) : (bs.map u8 ++ l).set (bs.length + k) x = bs.map u8 ++ l.set k x := by
  rw [List.set_append_right _ _ (by simp)]
  simp
theorem set_behind0 (bs : List UInt8) (l : List AV) (x : AV) : (bs.map u8 ++ l).set bs.length x = bs.map u8 ++ l.set 0 x := set_behind bs l 0 x
theorem nth_behind (bs : List UInt8) (l : List AV) (k : Nat) : nth (bs.map u8 ++ l) (bs.length + k) = l[k]? := by
  rw [nth_eq, List.getElem?_append_right (by simp)]
  simp
theorem renL_behind (f : Nat → Option Nat) (bs : List UInt8) (l : List AV) : AV.renL f (bs.map u8 ++ l) = bs.map u8 ++ AV.renL f l := by
  simp [AV.renL_map, AV.ren, u8, Function.comp_def]

theorem put8 (bs : List UInt8) (v : Int) : ACalls Try.prog noG 71 [.own 0 bs.length 2 none, .lit (.int .u8 v)] [.cells 5 1 (bs.map u8 ++ [.dead, .dead])] (.tup [])
    [.cells 5 1 (bs.map u8 ++ [.lit (.int .u8 204), .lit (.int .u8 v)])] := by
  refine (e71 bs v ?_).cast rfl rfl rfl ?_
  · simp [AllP, setL_one, set_behind, set_behind0, nth_behind]
  · simp [setL_one, set_behind, set_behind0, renL_behind, AV.renL, AV.ren]

theorem wrapU8 (n : Int) : IntKind.u8.wrap n = n % 256 := by
  simp only [IntKind.wrap, IntKind.bits, IntKind.signed]
  simp

theorem put16 (bs : List UInt8) (v : Int) (h0 : 0 ≤ v) (h1 : v < 65536) : ACalls Try.prog noG 72 [.own 0 bs.length 3 none, .lit (.int .u16 v)] [.cells 5 1 (bs.map u8 ++ [.dead, .dead, .dead])] (.tup [])
    [.cells 5 1 (bs.map u8 ++ [.lit (.int .u8 205), .lit (.int .u8 (v / 256)), .lit (.int .u8 (v % 256))])] := by
  have f1 : v.fdiv 256 = v / 256 := by rw [Int.fdiv_eq_ediv_of_nonneg _ (by omega)]
  have g1 : v / 256 % 256 = v / 256 := by omega
  refine (e72 bs v ?_).cast rfl rfl rfl ?_
  · simp [AllP, setL_one, set_behind, set_behind0, nth_behind]
  · simp [setL_one, set_behind, set_behind0, renL_behind, AV.renL, AV.ren, wrapU8, f1, g1]

theorem put32 (bs : List UInt8) (v : Int) (h0 : 0 ≤ v) (h1 : v < 4294967296) : ACalls Try.prog noG 73 [.own 0 bs.length 5 none, .lit (.int .u32 v)] [.cells 5 1 (bs.map u8 ++ [.dead, .dead, .dead, .dead, .dead])] (.tup [])
    [.cells 5 1 (bs.map u8 ++ [.lit (.int .u8 206), .lit (.int .u8 (v / 16777216)), .lit (.int .u8 (v / 65536 % 256)), .lit (.int .u8 (v / 256 % 256)), .lit (.int .u8 (v % 256))])] := by
  have f1 : v.fdiv 256 = v / 256 := by rw [Int.fdiv_eq_ediv_of_nonneg _ (by omega)]
  have f2 : v.fdiv 65536 = v / 65536 := by rw [Int.fdiv_eq_ediv_of_nonneg _ (by omega)]
  have f3 : v.fdiv 16777216 = v / 16777216 := by rw [Int.fdiv_eq_ediv_of_nonneg _ (by omega)]
  have g3 : v / 16777216 % 256 = v / 16777216 := by omega
  refine (e73 bs v ?_).cast rfl rfl rfl ?_
  · simp [AllP, setL_one, set_behind, set_behind0, nth_behind]
  · simp [setL_one, set_behind, set_behind0, renL_behind, AV.renL, AV.ren, wrapU8, f1, f2, f3, g3]

/-- Cells that are bytes. -/
theorem ACalls.asBytes {f : FuncId} {args : List AV} {H H' : List Row} {ret : AV} {e : TypeId} (k : Nat) (bs : List UInt8) {P : Program} {G : Env} (h : ACalls P G f args H ret H') (hkH : H.length ≤ k)
    (hk : H'[k]? = some (.cells e 1 (bs.map u8))) (hret : ret.fit k bs.length 1) (hrows : ∀ x ∈ H', rowFit k bs.length 1 x) : ACalls P G f args H ret (H'.set k (.bytes e bs)) :=
  h.weak k (.cells e 1 (bs.map u8)) (.bytes e bs) hkH hk rfl rfl rfl rfl rfl rfl (by simp [Row.len]) (fun j a a' ha ha' => by
    simp only [Row.cs] at ha ha'
    rw [ha] at ha'
    cases ha'
    exact Le.refl a) hret (fun j a ha => by
    simp only [Row.cs, List.getElem?_map] at ha
    obtain ⟨b, _, rfl⟩ := Option.map_eq_some_iff.1 ha
    exact True.intro) hrows

theorem fitL_u8 (k n s : Nat) : ∀ l : List UInt8, AV.fitL k n s (l.map u8)
  | [] => True.intro
  | b :: l => ⟨True.intro, fitL_u8 k n s l⟩

/-- The bytes of a number below 2^32, in MessagePack. -/
def encU (v : Nat) : List UInt8 :=
  if v ≤ 127 then [UInt8.ofNat v] else if v ≤ 255 then [204, UInt8.ofNat v] else if v ≤ 65535 then [205, UInt8.ofNat (v / 256), UInt8.ofNat (v % 256)]
  else [206, UInt8.ofNat (v / 16777216), UInt8.ofNat (v / 65536 % 256), UInt8.ofNat (v / 256 % 256), UInt8.ofNat (v % 256)]

theorem lit_u8 (n : Nat) (h : n < 256) : AV.lit (.int .u8 (n : Int)) = u8 (UInt8.ofNat n) := by
  simp only [u8, UInt8.toNat_ofNat']
  congr 2
  omega

theorem fix7 (v : Int) (h0 : 0 ≤ v) (h1 : v ≤ 127) : ACalls Try.prog noG 70 [.lit (.int .u8 v)] [] (.lit (.int .u8 v)) [] := by
  refine (e70 v trivial).cast rfl rfl ?_ rfl
  obtain ⟨n, rfl⟩ := Int.eq_ofNat_of_zero_le h0
  have hn : n < 128 := by omega
  congr 2
  have : ∀ n : Fin 128, IntKind.u8.wrap (((BitVec.ofInt IntKind.u8.bits (n.val : Int) &&& BitVec.ofInt IntKind.u8.bits 127).toNat : Nat) : Int) = (n.val : Int) := by decide
  exact this ⟨n, hn⟩

end Go.Ax
