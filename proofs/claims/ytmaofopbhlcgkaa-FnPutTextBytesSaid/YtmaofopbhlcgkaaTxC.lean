/-
  The Go functions that laws.FnPutTextBytes reaches, each by a contract.
-/
import Derived.Test.YtmaofopbhlcgkaaTxB
import Derived.Test.YtmaofopbhlcgkaaBhC
set_option linter.unusedVariables false
set_option linter.unusedSimpArgs false
set_option maxRecDepth 100000
namespace Go.Ax
open Go.Proofs

theorem renL_u8s (f : Nat → Option Nat) (l : List UInt8) : AV.renL f (l.map u8) = l.map u8 := by
  simp [AV.renL_map, AV.ren, u8, Function.comp_def]
theorem renL_app (f : Nat → Option Nat) (a b : List AV) : AV.renL f (a ++ b) = AV.renL f a ++ AV.renL f b := by
  simp [AV.renL_map]

theorem renL_three (f : Nat → Option Nat) (a b : List UInt8) (n : Nat) : AV.renL f (a.map u8 ++ b.map u8 ++ List.replicate n .dead) = a.map u8 ++ b.map u8 ++ List.replicate n .dead := by
  rw [renL_app, renL_app, renL_u8s, renL_u8s, renL_dead]

def headT (n : Nat) : List UInt8 :=
  if n ≤ 31 then [UInt8.ofNat (160 + n)] else if n ≤ 255 then [217, UInt8.ofNat n] else if n ≤ 65535 then [218, UInt8.ofNat (n / 256), UInt8.ofNat (n % 256)]
  else [219, UInt8.ofNat (n / 16777216), UInt8.ofNat (n / 65536 % 256), UInt8.ofNat (n / 256 % 256), UInt8.ofNat (n % 256)]
def encT (s : List UInt8) : List UInt8 := headT s.length ++ s

theorem textCells (bs cd s : List UInt8) (k : Nat) (hk : cd.length = k) :
    List.take (0 + (bs.length + k) * 1) (bs.map u8 ++ cd.map u8 ++ List.replicate s.length .dead) ++ (s.take s.length).map u8 ++ List.drop (0 + (bs.length + k) * 1 + s.length) (bs.map u8 ++ cd.map u8 ++ List.replicate s.length .dead) =
      (bs ++ (cd ++ s)).map u8 := by
  subst hk
  rw [List.take_left' (by simp), List.drop_eq_nil_of_le (by simp; omega)]
  simp

/-- The last step of each way. -/
theorem textLast {f : FuncId} {args : List AV} {bs cd s : List UInt8} {k n : Nat} {cs : List AV} (hk : cd.length = k) (hc : cs = (bs ++ (cd ++ s)).map u8) (hn : n = bs.length + (cd ++ s).length)
    (h : ACalls Try.prog noG f args [.bytes 5 bs] (.own 1 0 n none) [.gone, .cells 5 1 cs]) :
    ACalls Try.prog noG f args [.bytes 5 bs] (.own 1 0 (bs.length + (cd ++ s).length) none) [.gone, .bytes 5 (bs ++ (cd ++ s))] := by
  subst hc; subst hn
  refine lastStep (l := (cd ++ s).map u8) rfl rfl ?_
  simpa using h

theorem wfix (n : Nat) (hn : n ≤ 31) : ACalls Try.prog noG 59 [.lit (.int .u8 n)] [] (.lit (.int .u8 (160 + n : Nat))) [] := by
  refine (x59 n trivial).cast rfl rfl ?_ rfl
  congr 2
  have : ∀ n : Fin 32, IntKind.u8.wrap (↑(BitVec.ofInt IntKind.u8.bits (IntKind.u8.wrap (↑(BitVec.ofInt IntKind.u8.bits (n.val : Int) &&& BitVec.ofInt IntKind.u8.bits (31 : Int)).toNat : Int)) ||| BitVec.ofInt IntKind.u8.bits (160 : Int)).toNat : Int) = ((160 + n.val : Nat) : Int) := by decide
  exact this ⟨n, by omega⟩

theorem appendText (bs s : List UInt8) (h : bs.length ≤ maxN) (hs : s.length ≤ 131072) :
    ACalls Try.prog noG 39 [.own 0 0 bs.length none, .bts s] [.bytes 5 bs] (.own 1 0 (bs.length + (encT s).length) none) [.gone, .bytes 5 (bs ++ encT s)] := by
  have hm : maxN = 1000000000000 := rfl
  by_cases h1 : s.length ≤ 31
  · have w0 : IntKind.i64.wrap (1 + (s.length : Int)) = ((1 + s.length : Nat) : Int) := by rw [wrap64 (by omega) (by omega)]; omega
    have w1 : IntKind.i64.wrap ((bs.length : Int) + 1) = ((bs.length + 1 : Nat) : Int) := by rw [wrap64 (by omega) (by omega)]; omega
    have w2 : IntKind.i64.wrap (((bs.length + 1 : Nat) : Int) + (s.length : Int)) = ((bs.length + 1 + s.length : Nat) : Int) := by rw [wrap64 (by omega) (by omega)]; omega
    have w3 : IntKind.u8.wrap (s.length : Int) = s.length := by rw [wrapU8]; omega
    have t1 : min s.length (bs.length + (1 + s.length) - (bs.length + 1)) = s.length := by omega
    have cc : AV.lit (.int .u8 ((160 + s.length : Nat) : Int)) = u8 (UInt8.ofNat (160 + s.length)) := by rw [← lit_u8 _ (by omega)]
    have c1 := ensureL bs (1 + s.length) (.dead :: List.replicate s.length .dead) (by rw [Nat.add_comm, List.replicate_succ]) h (by omega)
    have r1 : ∀ (x : AV) (l : List AV), setL (bs.map u8 ++ .dead :: l) bs.length [x] = bs.map u8 ++ x :: l := fun x l => by simp [setL_one, set_behind0]
    have r2 : ∀ f l, AV.renL f (bs.map u8 ++ AV.dead :: l) = bs.map u8 ++ .dead :: AV.renL f l := fun f l => by rw [renL_behind, AV.renL]; rfl
    have e := x39a bs s (1 + s.length) ((160 + s.length : Nat) : Int)
    simp only [w0, w1, w2, w3, Int.toNat_natCast, t1, Nat.mul_one, Nat.zero_add, r1, r2, renL_dead, cc] at e
    have hcell := textCells bs [UInt8.ofNat (160 + s.length)] s 1 rfl
    simp only [Nat.mul_one, Nat.zero_add, List.append_assoc, List.map_cons, List.map_nil, List.singleton_append] at hcell
    simp only [List.append_assoc] at e
    rw [hcell, renL_u8s] at e
    have e2 := e (by
      simp only [AllP, leAll]
      have := wfix s.length h1
      rw [cc] at this
      refine ⟨⟨Int.le_refl _, by omega, .inl (by omega)⟩, ⟨by omega, by omega, .inl (Int.le_refl _)⟩, by simp, ⟨by omega, by omega⟩, this, ⟨Le.refl _, trivial⟩, trivial, c1, ⟨Le.refl _, Le.refl _, trivial⟩, ⟨RowLe.refl _, trivial⟩, by simp; omega, trivial⟩)
    have := textLast (cd := [UInt8.ofNat (160 + s.length)]) (s := s) rfl (by simp) (by simp; omega) e2
    simpa [encT, headT, h1] using this
  · by_cases h2 : s.length ≤ 255
    · have w0 : IntKind.i64.wrap (2 + (s.length : Int)) = ((2 + s.length : Nat) : Int) := by rw [wrap64 (by omega) (by omega)]; omega
      have w1 : IntKind.i64.wrap ((bs.length : Int) + 2) = ((bs.length + 2 : Nat) : Int) := by rw [wrap64 (by omega) (by omega)]; omega
      have w2 : IntKind.i64.wrap (((bs.length + 2 : Nat) : Int) + (s.length : Int)) = ((bs.length + 2 + s.length : Nat) : Int) := by rw [wrap64 (by omega) (by omega)]; omega
      have w3 : IntKind.u8.wrap (s.length : Int) = s.length := by rw [wrapU8]; omega
      have t1 : min s.length (bs.length + (2 + s.length) - (bs.length + 2)) = s.length := by omega
      have t2 : bs.length + (2 + s.length) - bs.length = 2 + s.length := by omega
      have c1 := ensureL bs (2 + s.length) (.dead :: .dead :: List.replicate s.length .dead) (by rw [Nat.add_comm, List.replicate_succ, List.replicate_succ]) h (by omega)
      have c2 := pre8 bs s.length 217 s.length
      have b0 : AV.lit (.int .u8 217) = u8 217 := rfl
      have b1 := lit_u8 s.length (by omega)
      replace c2 := c2.cast rfl rfl rfl (show _ = [Row.cells 5 1 (bs.map u8 ++ [217, UInt8.ofNat s.length].map u8 ++ List.replicate s.length .dead)] by rw [b0, b1]; simp)
      have e := x39b bs s ([217, UInt8.ofNat s.length].map u8) (2 + s.length)
      have r2 : ∀ f l, AV.renL f (bs.map u8 ++ AV.dead :: AV.dead :: l) = bs.map u8 ++ .dead :: .dead :: AV.renL f l := fun f l => by rw [renL_behind, AV.renL, AV.renL]; rfl
      simp only [w0, w1, w2, w3, Int.toNat_natCast, t1, t2, renL_three, r2, renL_dead] at e
      rw [textCells bs [217, UInt8.ofNat s.length] s 2 rfl, renL_u8s] at e
      have e2 := e (by
        simp only [AllP, leAll, Nat.mul_one, Nat.zero_add]
        refine ⟨⟨Int.le_refl _, by omega, .inl (by omega)⟩, ⟨by omega, by omega, .inl (Int.le_refl _)⟩, c2, ⟨Le.refl _, Le.refl _, Le.refl _, trivial⟩, ⟨by simp [renL_behind, AV.renL, AV.ren, renL_dead], trivial⟩, ⟨by omega, by omega, .inl (Int.le_refl _)⟩, c1, ⟨Le.refl _, Le.refl _, trivial⟩, ⟨RowLe.refl _, trivial⟩, by simp; omega, by simp; omega, trivial⟩)
      have := textLast (cd := [217, UInt8.ofNat s.length]) (s := s) rfl rfl (by simp; omega) e2
      simpa [encT, headT, h1, h2] using this
    · by_cases h3 : s.length ≤ 65535
      · have w0 : IntKind.i64.wrap (3 + (s.length : Int)) = ((3 + s.length : Nat) : Int) := by rw [wrap64 (by omega) (by omega)]; omega
        have w1 : IntKind.i64.wrap ((bs.length : Int) + 3) = ((bs.length + 3 : Nat) : Int) := by rw [wrap64 (by omega) (by omega)]; omega
        have w2 : IntKind.i64.wrap (((bs.length + 3 : Nat) : Int) + (s.length : Int)) = ((bs.length + 3 + s.length : Nat) : Int) := by rw [wrap64 (by omega) (by omega)]; omega
        have w3 : IntKind.u16.wrap (s.length : Int) = s.length := by simp only [IntKind.wrap, IntKind.bits, IntKind.signed]; simp; omega
        have t1 : min s.length (bs.length + (3 + s.length) - (bs.length + 3)) = s.length := by omega
        have t2 : bs.length + (3 + s.length) - bs.length = 3 + s.length := by omega
        have c1 := ensureL bs (3 + s.length) (.dead :: .dead :: .dead :: List.replicate s.length .dead) (by rw [Nat.add_comm, List.replicate_succ, List.replicate_succ, List.replicate_succ]) h (by omega)
        have c2 := pre16 bs s.length 218 s.length (by omega) (by omega)
        have b1 : AV.lit (.int .u8 ((s.length : Int) / 256)) = u8 (UInt8.ofNat (s.length / 256)) := by rw [← lit_u8 (s.length / 256) (by omega)]; rfl
        have b2 : AV.lit (.int .u8 ((s.length : Int) % 256)) = u8 (UInt8.ofNat (s.length % 256)) := by rw [← lit_u8 (s.length % 256) (by omega)]; rfl
        have b0 : AV.lit (.int .u8 218) = u8 218 := rfl
        replace c2 := c2.cast rfl rfl rfl (show _ = [Row.cells 5 1 (bs.map u8 ++ [218, UInt8.ofNat (s.length / 256), UInt8.ofNat (s.length % 256)].map u8 ++ List.replicate s.length .dead)] by rw [b0, b1, b2]; simp)
        have e := x39c bs s ([218, UInt8.ofNat (s.length / 256), UInt8.ofNat (s.length % 256)].map u8) (3 + s.length)
        have r2 : ∀ f l, AV.renL f (bs.map u8 ++ AV.dead :: AV.dead :: AV.dead :: l) = bs.map u8 ++ .dead :: .dead :: .dead :: AV.renL f l := fun f l => by rw [renL_behind, AV.renL, AV.renL, AV.renL]; rfl
        simp only [w0, w1, w2, w3, Int.toNat_natCast, t1, t2, renL_three, r2, renL_dead] at e
        rw [textCells bs [218, UInt8.ofNat (s.length / 256), UInt8.ofNat (s.length % 256)] s 3 rfl, renL_u8s] at e
        have e2 := e (by
          simp only [AllP, leAll, Nat.mul_one, Nat.zero_add]
          refine ⟨⟨Int.le_refl _, by omega, .inl (by omega)⟩, ⟨by omega, by omega, .inl (Int.le_refl _)⟩, c2, ⟨Le.refl _, Le.refl _, Le.refl _, trivial⟩, ⟨by simp [renL_behind, AV.renL, AV.ren, renL_dead], trivial⟩, ⟨by omega, by omega, .inl (Int.le_refl _)⟩, c1, ⟨Le.refl _, Le.refl _, trivial⟩, ⟨RowLe.refl _, trivial⟩, by simp; omega, by simp; omega, by simp; omega, trivial⟩)
        have := textLast (cd := [218, UInt8.ofNat (s.length / 256), UInt8.ofNat (s.length % 256)]) (s := s) rfl rfl (by simp; omega) e2
        simpa [encT, headT, h1, h2, h3] using this
      · have w0 : IntKind.i64.wrap (5 + (s.length : Int)) = ((5 + s.length : Nat) : Int) := by rw [wrap64 (by omega) (by omega)]; omega
        have w1 : IntKind.i64.wrap ((bs.length : Int) + 5) = ((bs.length + 5 : Nat) : Int) := by rw [wrap64 (by omega) (by omega)]; omega
        have w2 : IntKind.i64.wrap (((bs.length + 5 : Nat) : Int) + (s.length : Int)) = ((bs.length + 5 + s.length : Nat) : Int) := by rw [wrap64 (by omega) (by omega)]; omega
        have w3 : IntKind.u32.wrap (s.length : Int) = s.length := by simp only [IntKind.wrap, IntKind.bits, IntKind.signed]; simp; omega
        have t1 : min s.length (bs.length + (5 + s.length) - (bs.length + 5)) = s.length := by omega
        have t2 : bs.length + (5 + s.length) - bs.length = 5 + s.length := by omega
        have c1 := ensureL bs (5 + s.length) (.dead :: .dead :: .dead :: .dead :: .dead :: List.replicate s.length .dead) (by rw [Nat.add_comm, List.replicate_succ, List.replicate_succ, List.replicate_succ, List.replicate_succ, List.replicate_succ]) h (by omega)
        have c2 := pre32 bs s.length 219 s.length (by omega) (by omega)
        have b1 : AV.lit (.int .u8 ((s.length : Int) / 16777216)) = u8 (UInt8.ofNat (s.length / 16777216)) := by rw [← lit_u8 (s.length / 16777216) (by omega)]; rfl
        have b2 : AV.lit (.int .u8 ((s.length : Int) / 65536 % 256)) = u8 (UInt8.ofNat (s.length / 65536 % 256)) := by rw [← lit_u8 (s.length / 65536 % 256) (by omega)]; rfl
        have b3 : AV.lit (.int .u8 ((s.length : Int) / 256 % 256)) = u8 (UInt8.ofNat (s.length / 256 % 256)) := by rw [← lit_u8 (s.length / 256 % 256) (by omega)]; rfl
        have b4 : AV.lit (.int .u8 ((s.length : Int) % 256)) = u8 (UInt8.ofNat (s.length % 256)) := by rw [← lit_u8 (s.length % 256) (by omega)]; rfl
        have b0 : AV.lit (.int .u8 219) = u8 219 := rfl
        replace c2 := c2.cast rfl rfl rfl (show _ = [Row.cells 5 1 (bs.map u8 ++ [219, UInt8.ofNat (s.length / 16777216), UInt8.ofNat (s.length / 65536 % 256), UInt8.ofNat (s.length / 256 % 256), UInt8.ofNat (s.length % 256)].map u8 ++ List.replicate s.length .dead)] by rw [b0, b1, b2, b3, b4]; simp)
        have e := x39d bs s ([219, UInt8.ofNat (s.length / 16777216), UInt8.ofNat (s.length / 65536 % 256), UInt8.ofNat (s.length / 256 % 256), UInt8.ofNat (s.length % 256)].map u8) (5 + s.length)
        have r2 : ∀ f l, AV.renL f (bs.map u8 ++ AV.dead :: AV.dead :: AV.dead :: AV.dead :: AV.dead :: l) = bs.map u8 ++ .dead :: .dead :: .dead :: .dead :: .dead :: AV.renL f l := fun f l => by rw [renL_behind, AV.renL, AV.renL, AV.renL, AV.renL, AV.renL]; rfl
        simp only [w0, w1, w2, w3, Int.toNat_natCast, t1, t2, renL_three, r2, renL_dead] at e
        rw [textCells bs [219, UInt8.ofNat (s.length / 16777216), UInt8.ofNat (s.length / 65536 % 256), UInt8.ofNat (s.length / 256 % 256), UInt8.ofNat (s.length % 256)] s 5 rfl, renL_u8s] at e
        have e2 := e (by
          simp only [AllP, leAll, Nat.mul_one, Nat.zero_add]
          refine ⟨⟨Int.le_refl _, by omega, .inl (by omega)⟩, ⟨by omega, by omega, .inl (Int.le_refl _)⟩, c2, ⟨Le.refl _, Le.refl _, Le.refl _, trivial⟩, ⟨by simp [renL_behind, AV.renL, AV.ren, renL_dead], trivial⟩, ⟨by omega, by omega, .inl (Int.le_refl _)⟩, c1, ⟨Le.refl _, Le.refl _, trivial⟩, ⟨RowLe.refl _, trivial⟩, by simp; omega, by simp; omega, by simp; omega, trivial⟩)
        have := textLast (cd := [219, UInt8.ofNat (s.length / 16777216), UInt8.ofNat (s.length / 65536 % 256), UInt8.ofNat (s.length / 256 % 256), UInt8.ofNat (s.length % 256)]) (s := s) rfl rfl (by simp; omega) e2
        simpa [encT, headT, h1, h2, h3] using this

theorem putText (bs s : List UInt8) (h : bs.length ≤ maxN) (hs : s.length ≤ 131072) : ACalls Try.prog noG 22 [.bts bs, .bts s] [] (.bts (bs ++ encT s)) [] := by
  have a := appendText bs s h hs
  rw [show bs.length + (encT s).length = (bs ++ encT s).length by simp] at a
  have h1 := x22 bs s (bs ++ encT s) (by
    simp only [AllP, leAll]
    exact ⟨a, ⟨Le.refl _, Le.refl _, trivial⟩, ⟨RowLe.refl _, trivial⟩, copied bs h, ⟨Le.refl _, trivial⟩, trivial, trivial⟩)
  have h2 := (h1.freezeRet 0 rfl rfl).only [] (by rfl)
  exact h2.cast rfl rfl (by simp [AV.frz, frzOwn, AV.ren, List.take_of_length_le]) rfl

theorem bigT (rest s : List UInt8) (k n : Nat) (hk : rest.length = k) (hk2 : k < 1000) (hn : bigA 0 rest = n) : ACalls Try.prog noG 35 [.bts (rest ++ s), .lit (.int .i64 k)] [] (.tup [.lit (.int .u64 n), .bts s, .lit (.bool true)]) [] := by
  subst hk; subst hn
  exact (takeBig (rest ++ s) rest.length (by simp) hk2).cast rfl rfl (by simp) rfl

theorem takeTextA (s : List UInt8) (hs : s.length ≤ 131072) : ACalls Try.prog noG 49 [.lit (.int .i64 6), .lit (.int .u64 s.length), .bts s] [] (.tup [tpack ⟨s.toArray⟩, .bts [], .lit (.bool true)]) [] := by
  have w : IntKind.u64.wrap (s.length : Int) = s.length := by rw [wrapU64]; omega
  exact (x49 6 s.length s (by simp [AllP, w])).cast rfl rfl (by simp [tpack]) rfl

theorem x32A (code : UInt8) (d : List UInt8) (t : ByteArray) (hc : code = 217 ∨ code = 218 ∨ code = 219)
    (c : ACalls Try.prog noG 50 [.lit (.int .i64 code.toNat), .bts d, .lit (.int .i64 1)] [] (.tup [tpack t, .bts [], .lit (.bool true)]) []) :
    ACalls Try.prog noG 32 [.bts (code :: d), .lit (.int .i64 1)] [] (.tup [tpack t, .bts [], .lit (.bool true)]) [] := by
  have d6 : ((d.length : Int) + 1).toNat = d.length + 1 := by omega
  have d7 : (1 : Int) ≤ (d.length : Int) + 1 := by omega
  have d8 : (0 : Int) < (d.length : Int) + 1 := by omega
  rcases hc with rfl | rfl | rfl
  · exact x32a d t (by simp [AllP, leAll, d6, d7, d8]; exact c)
  · exact x32b d t (by simp [AllP, leAll, d6, d7, d8]; exact c)
  · exact x32c d t (by simp [AllP, leAll, d6, d7, d8]; exact c)

theorem takePackT (s : List UInt8) (hs : s.length ≤ 131072) : ACalls Try.prog noG 32 [.bts (encT s), .lit (.int .i64 1)] [] (.tup [tpack ⟨s.toArray⟩, .bts [], .lit (.bool true)]) [] := by
  have t := takeTextA s hs
  by_cases h1 : s.length ≤ 31
  · have hn : (UInt8.ofNat (160 + s.length)).toNat = 160 + s.length := by rw [UInt8.toNat_ofNat']; omega
    have g : ((UInt8.ofNat (160 + s.length) :: s).getD 0 0).toNat = 160 + s.length := hn
    have w1 : IntKind.i64.wrap ((160 + s.length : Nat) : Int) = ((160 + s.length : Nat) : Int) := wrap64 (by omega) (by omega)
    have w2 : IntKind.u64.wrap (IntKind.i64.wrap (↑(BitVec.ofInt IntKind.i64.bits ((160 + s.length : Nat) : Int) &&& BitVec.ofInt IntKind.i64.bits (31 : Int)).toNat : Int)) = s.length := by
      have : ∀ n : Fin 32, IntKind.u64.wrap (IntKind.i64.wrap (↑(BitVec.ofInt IntKind.i64.bits ((160 + n.val : Nat) : Int) &&& BitVec.ofInt IntKind.i64.bits (31 : Int)).toNat : Int)) = (n.val : Int) := by decide
      exact this ⟨s.length, by omega⟩
    have e := x32 (UInt8.ofNat (160 + s.length)) s s.length ⟨s.toArray⟩
    simp only [Int.toNat_zero, g, w1, w2] at e
    refine (e ?_).cast (by simp [encT, headT, h1]) rfl rfl rfl
    have d6 : ((s.length : Int) + 1).toNat = s.length + 1 := by omega
    simp [AllP, leAll, d6]
    refine ⟨t, ?_⟩
    omega
  · by_cases h2 : s.length ≤ 255
    · have hb : bigA 0 [UInt8.ofNat s.length] = s.length := by simp [bigA, UInt8.toNat_ofNat']; omega
      have c := x50a (UInt8.ofNat s.length :: s) s s.length ⟨s.toArray⟩ (by have b := bigT [UInt8.ofNat s.length] s 1 s.length rfl (by omega) hb; simp [AllP, leAll]; exact ⟨t, b⟩)
      have e := x32A 217 (UInt8.ofNat s.length :: s) ⟨s.toArray⟩ (by decide) c
      exact e.cast (by simp [encT, headT, h1, h2]) rfl rfl rfl
    · by_cases h3 : s.length ≤ 65535
      · have hb : bigA 0 [UInt8.ofNat (s.length / 256), UInt8.ofNat (s.length % 256)] = s.length := by simp [bigA, UInt8.toNat_ofNat']; omega
        have c := x50b (UInt8.ofNat (s.length / 256) :: UInt8.ofNat (s.length % 256) :: s) s s.length ⟨s.toArray⟩ (by have b := bigT [UInt8.ofNat (s.length / 256), UInt8.ofNat (s.length % 256)] s 2 s.length rfl (by omega) hb; simp [AllP, leAll]; exact ⟨t, b⟩)
        have e := x32A 218 (UInt8.ofNat (s.length / 256) :: UInt8.ofNat (s.length % 256) :: s) ⟨s.toArray⟩ (by decide) c
        exact e.cast (by simp [encT, headT, h1, h2, h3]) rfl rfl rfl
      · have hb : bigA 0 [UInt8.ofNat (s.length / 16777216), UInt8.ofNat (s.length / 65536 % 256), UInt8.ofNat (s.length / 256 % 256), UInt8.ofNat (s.length % 256)] = s.length := by simp [bigA, UInt8.toNat_ofNat']; omega
        have c := x50c (UInt8.ofNat (s.length / 16777216) :: UInt8.ofNat (s.length / 65536 % 256) :: UInt8.ofNat (s.length / 256 % 256) :: UInt8.ofNat (s.length % 256) :: s) s s.length ⟨s.toArray⟩ (by
          have b := bigT [UInt8.ofNat (s.length / 16777216), UInt8.ofNat (s.length / 65536 % 256), UInt8.ofNat (s.length / 256 % 256), UInt8.ofNat (s.length % 256)] s 4 s.length rfl (by omega) hb
          simp [AllP, leAll]; exact ⟨t, b⟩)
        have e := x32A 219 (UInt8.ofNat (s.length / 16777216) :: UInt8.ofNat (s.length / 65536 % 256) :: UInt8.ofNat (s.length / 256 % 256) :: UInt8.ofNat (s.length % 256) :: s) ⟨s.toArray⟩ (by decide) c
        exact e.cast (by simp [encT, headT, h1, h2, h3]) rfl rfl rfl

theorem samePackT (t : ByteArray) : ACalls Try.prog noG 33 [tpack t, tpack t] [] (.lit (.bool true)) [] :=
  x33 t (by
    have hl : CodeC Try.prog noG 80 (.loop (loopAt Try.f33 0)) [(63, .lit (.int .i64 0)), (64, .lit (.int .i64 0))] [] (.exit 0) [] [] := (LoopC.exit (p33x ⟨rfl, trivial⟩) (by simp)).code
    simp [AllP, hl])

theorem appendedT (bs s : List UInt8) (h : bs.length ≤ maxN) (hs : s.length ≤ 131072) : ACalls Try.prog noG 13 [.bts bs, .bts (bs ++ encT s), tpack ⟨s.toArray⟩, .lit (.int .i64 (-1))] [] (.lit (.bool true)) [] := by
  simp [maxN] at h
  have h1 := samePackT ⟨s.toArray⟩
  have h2 := takePackT s hs
  have d1 : ¬ ((bs.length : Int) + ((encT s).length : Int) < bs.length) := by omega
  have d4 : (bs.length : Int) ≤ bs.length + (encT s).length := by omega
  have d6 : ((bs.length : Int) + (encT s).length).toNat = bs.length + (encT s).length := by omega
  refine (x13 bs (encT s) ⟨s.toArray⟩ ?_).cast rfl rfl rfl rfl
  simp [AllP, leAll, tpack] at h1 h2 ⊢
  simp [h1, h2, d1, d4, d6, List.take_of_length_le]

theorem fnPutTextBytes (bs s : List UInt8) : ACalls Try.prog noG 6 [.bts bs, .bts s] [] (.lit (.bool true)) [] := by
  by_cases h1 : (2147483647 : Int) < bs.length
  · exact x6a bs s (by simp [AllP, h1])
  · by_cases h1' : (2147483647 : Int) < s.length
    · exact x6b bs s (by simp [AllP, h1, h1'])
    · have h : bs.length ≤ maxN := by simp [maxN]; omega
      have p0 : ACalls Try.prog noG 22 [.bts [], .bts [97]] [] (.bts [161, 97]) [] := putText [] [97] (by simp [maxN]) (by simp)
      have p3 := few bs
      by_cases h2 : bs.length ≤ 200
      · simp only [h2, decide_true] at p3
        by_cases hs : s.length ≤ 131072
        · have p2 := appendedT bs s h hs
          have p5 : ACalls Try.prog noG 22 [.own 0 0 bs.length none, .bts s] [.bytes 5 bs] (.bts (bs ++ encT s)) [.gone] := by
            refine ACalls.freezeArg 0 (r := .bytes 5 bs) rfl rfl ?_
            refine ((putText bs s h hs).frame [.gone] (by simp [leAll, AV.ren]) rfl).cast ?_ rfl rfl rfl
            simp [AV.frz, frzOwn]
          refine (x6e bs s (encT s) ?_).cast rfl rfl rfl rfl
          simp [AllP, leAll, tpack] at p2 ⊢
          simp [p0, p2, p3, p5, h1, h1']
          omega
        · refine (x6d bs s ?_).cast rfl rfl rfl rfl
          simp [AllP, leAll, p0, p3, h1, h1']
          omega
      · simp only [h2, decide_false] at p3
        refine (x6c bs s ?_).cast rfl rfl rfl rfl
        simp [AllP, leAll, p0, p3, h1, h1']
end Go.Ax
