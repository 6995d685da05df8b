/-
  laws.FnWriteArrayUlong: what is written, read back; the law.
-/
import Derived.Test.YtemlccbnicdfgaaDoorUaC
import Derived.Test.YtemlccbnicdfgaaDoorUaD
import Derived.Test.YtemlccbnicdfgaaDoorUaE
set_option linter.unusedVariables false
set_option linter.unusedSimpArgs false
set_option maxRecDepth 100000
namespace Go.Ax
open Go.Proofs

def b8 (v : Int) : List UInt8 := [byteI (v / 72057594037927936), byteI (v / 281474976710656), byteI (v / 1099511627776), byteI (v / 4294967296), byteI (v / 16777216), byteI (v / 65536), byteI (v / 256), byteI v]
theorem b8_split (v : Int) : b8 v = b4 (v / 4294967296) ++ b4 v := by
  have h1 : v / 4294967296 / 16777216 = v / 72057594037927936 := by omega
  have h2 : v / 4294967296 / 65536 = v / 281474976710656 := by omega
  have h3 : v / 4294967296 / 256 = v / 1099511627776 := by omega
  simp only [b8, b4, h1, h2, h3, List.cons_append, List.nil_append]
theorem bigA_app : ∀ (a b : List UInt8) (u : Nat), bigA u (a ++ b) = bigA (bigA u a) b
  | [], b, u => rfl
  | x :: a, b, u => by simp only [List.cons_append, bigA]; exact bigA_app a b _
theorem bigA4 (u : Nat) (v : Int) (hu : u < 4294967296) : bigA u (b4 v) = u * 4294967296 + (v % 4294967296).toNat := by
  simp only [b4, bigA, byteI_nat]
  omega
theorem bigB8 (v : Int) (h0 : 0 ≤ v) (h1 : v < 18446744073709551616) : ((bigA 0 (b8 v) : Nat) : Int) = v := by
  rw [b8_split, bigA_app, bigA4 0 _ (by omega), bigA4 _ _ (by omega)]
  omega

theorem app64 (bs : List UInt8) (v : Int) (h : bs.length ≤ 1000000) (h0 : 0 ≤ v) (h1 : v < 18446744073709551616) : ACalls Tryd.prog noG 19 [.ptr 0 0, .lit (.int .u64 v)] [bufRow (.own 1 0 bs.length none), .bytes 5 bs] (.tup []) [bufRow (.own 2 0 (bs ++ b8 v).length none), .gone, .bytes 5 (bs ++ b8 v)] := by
  have f : ∀ d : Int, 0 ≤ d → v.fdiv d = v / d := fun d hd => Int.fdiv_eq_ediv_of_nonneg _ hd
  have e := a8o bs v
  simp only [f 256 (by omega), f 65536 (by omega), f 16777216 (by omega), f 4294967296 (by omega), f 1099511627776 (by omega), f 281474976710656 (by omega), f 72057594037927936 (by omega), wrapU8, byteI_toNat] at e
  refine (e ?_).cast rfl rfl rfl (by simp [b8, bufRow])
  simp only [AllP]
  refine ⟨by omega, by omega, ⟨by omega, by omega⟩, ⟨by omega, by omega⟩, ⟨by omega, by omega⟩, ⟨by omega, by omega⟩, ⟨by omega, by omega⟩, ⟨by omega, by omega⟩, ⟨by omega, by omega⟩, ⟨by omega, by omega⟩, by omega, by omega, by omega, by omega, by omega, by omega, by omega, trivial⟩

def gb (e : Int → List UInt8) (l : List Int) : List UInt8 := l.flatMap e
theorem gb_len (e : Int → List UInt8) (s : Nat) (he : ∀ x, (e x).length = s) (l : List Int) : (gb e l).length = l.length * s := by
  induction l with
  | nil => simp [gb]
  | cons x l ih => simp only [gb, List.flatMap_cons, List.length_append] at ih ⊢; rw [ih, he, List.length_cons, Nat.succ_mul, Nat.add_comm]
theorem gb_snoc (e : Int → List UInt8) (l : List Int) (i : Nat) (h : i < l.length) : gb e (l.take (i + 1)) = gb e (l.take i) ++ e l[i] := by
  simp only [gb, List.take_succ_eq_append_getElem h, List.flatMap_append, List.flatMap_cons, List.flatMap_nil, List.append_nil]

def b1 (v : Int) : List UInt8 := [byteI v]
def bz : List Row := [bufRow (.lit (.slice none 0 0))]
def sl1 (l : List Int) (i : Nat) : List (Nat × AV) := [(0, roL l), (1, .ptr 0 0), (5, .lit (.int .i64 1)), (6, .lit (.int .u8 83)), (13, roL l), (14, .lit (.int .i64 l.length)), (15, .lit (.int .i64 i))]

theorem small (l : List Int) (hl : l.length ≤ 1000) (hv : ∀ x ∈ l, x ≤ 255) : ∀ (m i : Nat), l.length - i = m → i ≤ l.length →
    LoopC Tryd.prog noG 51 (loopAt Tryd.f11 0) (sl1 l i) bz (.exit 0) [(0, roL l), (1, .ptr 0 0), (5, .lit (.int .i64 1)), (6, .lit (.int .u8 83))] bz
  | 0, i, hk, hi => by
    obtain rfl : i = l.length := by omega
    exact LoopC.exit (m1x l l.length (by simp [AllP])) (by simp)
  | m + 1, i, hk, hi => by
    have hlt : i < l.length := by omega
    have hx := hv l[i] (List.getElem_mem _)
    have e := m1s l i
    simp only [ix i (by omega), Int.toNat_natCast, getI l i hlt] at e
    exact LoopC.step (e (by (simp only [AllP, leAll]; repeat' (first | with_reducible apply And.intro | exact trivial | with_reducible rfl | with_reducible exact Le.refl _ | with_reducible exact RowLe.refl _ | assumption | exact Le.refl _ | exact RowLe.refl _ | omega | (simp <;> omega))))) (small l hl hv m (i + 1) (by omega) (by omega))

theorem large (l : List Int) (hl : l.length ≤ 1000) : ∀ (m i : Nat), l.length - i = m → i ≤ l.length → (∃ x ∈ l.drop i, 255 < x) →
    LoopC Tryd.prog noG 51 (loopAt Tryd.f11 0) (sl1 l i) bz (.exit 0) [(0, roL l), (1, .ptr 0 0), (5, .lit (.int .i64 8)), (6, .lit (.int .u8 128))] bz
  | 0, i, hk, hi, hx => by
    obtain ⟨x, hm, -⟩ := hx
    rw [List.drop_eq_nil_of_le (by omega)] at hm
    cases hm
  | m + 1, i, hk, hi, hx => by
    have hlt : i < l.length := by omega
    by_cases h : l[i] > 255
    · have e := m1b l i
      simp only [Int.toNat_natCast, getI l i hlt] at e
      exact LoopC.exit (e (by (simp only [AllP, leAll]; repeat' (first | with_reducible apply And.intro | exact trivial | with_reducible rfl | with_reducible exact Le.refl _ | with_reducible exact RowLe.refl _ | assumption | exact Le.refl _ | exact RowLe.refl _ | omega | (simp <;> omega))))) (by simp)
    · have e := m1s l i
      simp only [ix i (by omega), Int.toNat_natCast, getI l i hlt] at e
      refine LoopC.step (e (by (simp only [AllP, leAll]; repeat' (first | with_reducible apply And.intro | exact trivial | with_reducible rfl | with_reducible exact Le.refl _ | with_reducible exact RowLe.refl _ | assumption | exact Le.refl _ | exact RowLe.refl _ | omega | (simp <;> omega))))) (large l hl m (i + 1) (by omega) (by omega) ?_)
      obtain ⟨x, hm, h2⟩ := hx
      rw [List.drop_eq_getElem_cons hlt] at hm
      rcases List.mem_cons.1 hm with rfl | hm
      · exact absurd h2 h
      · exact ⟨x, hm, h2⟩

theorem longsLoop (l : List Int) (hd : List UInt8) (hl : l.length ≤ 1000) (hh : hd.length ≤ 10) (hv : ∀ x ∈ l, 0 ≤ x ∧ x < 18446744073709551616) :
    CodeC Tryd.prog noG 51 (.loop (loopAt Tryd.f11 1)) [(1, .ptr 0 0), (30, roL l), (31, .lit (.int .i64 l.length)), (32, .lit (.int .i64 (0 : Nat)))] [bufRow (.own 1 0 hd.length none), .bytes 5 hd] (.exit 2) [(1, .ptr 0 0)] [bufRow (.own 2 0 (hd ++ gb b8 l).length none), .gone, .bytes 5 (hd ++ gb b8 l)] := by
  have key := growOwn (P := Tryd.prog) (G := noG) (k := 1) (n := 51) (c := loopAt Tryd.f11 1) (N := l.length) (ex := .exit 2)
    (fun i _ => [(1, .ptr 0 0), (30, roL l), (31, .lit (.int .i64 l.length)), (32, .lit (.int .i64 i))]) (fun _ => [(1, .ptr 0 0)]) (fun w => [bufRow w]) (fun i => .bytes 5 (hd ++ gb b8 (l.take i))) (fun i => (hd ++ gb b8 (l.take i)).length) (by simp) [some 0, some 2]
    (fun i hi => by
      have hx := hv l[i] (List.getElem_mem _)
      have hlen : (hd ++ gb b8 (l.take i)).length ≤ 1000000 := by rw [List.length_append, gb_len b8 8 (fun x => rfl), List.length_take]; omega
      have a := app64 (hd ++ gb b8 (l.take i)) l[i] hlen hx.1 hx.2
      have ha : hd ++ gb b8 (l.take (i + 1)) = hd ++ gb b8 (l.take i) ++ b8 l[i] := by rw [gb_snoc b8 l i hi, List.append_assoc]
      rw [← ha] at a
      have e := m2o l i (hd ++ gb b8 (l.take i)) (hd ++ gb b8 (l.take (i + 1)))
      simp only [ix i (by omega), getI l i hi, Int.toNat_natCast] at e
      exact e (by (simp only [AllP, leAll]; repeat' (first | with_reducible apply And.intro | exact trivial | with_reducible rfl | with_reducible exact Le.refl _ | with_reducible exact RowLe.refl _ | assumption | exact Le.refl _ | exact RowLe.refl _ | omega | (simp <;> omega)))))
    (m2x l l.length (hd ++ gb b8 (l.take l.length)) (by simp [AllP]))
    (fun i hi => rfl) (fun i hi => rfl) (fun i hi => rfl) [some 0, none, some 1] rfl rfl
  simp only [List.take_zero, List.take_length] at key
  have h0 : hd ++ gb b8 [] = hd := by simp [gb]
  rw [h0] at key
  exact key

theorem app8I (bs : List UInt8) (v : Int) (h : bs.length ≤ 1000000) (h0 : 0 ≤ v) (h1 : v ≤ 255) : ACalls Tryd.prog noG 20 [.ptr 0 0, .lit (.int .u8 v)] [bufRow (.own 1 0 bs.length none), .bytes 5 bs] (.tup []) [bufRow (.own 2 0 (bs ++ b1 v).length none), .gone, .bytes 5 (bs ++ b1 v)] := by
  have e := app8 bs (byteI v) h
  rw [byteI_nat] at e
  rw [show (((v % 256).toNat : Nat) : Int) = v by omega] at e
  exact e

theorem bytesLoop (l : List Int) (hd : List UInt8) (hl : l.length ≤ 1000) (hh : hd.length ≤ 10) (hv : ∀ x ∈ l, 0 ≤ x ∧ x ≤ 255) :
    CodeC Tryd.prog noG 51 (.loop (loopAt Tryd.f11 2)) [(1, .ptr 0 0), (40, roL l), (41, .lit (.int .i64 l.length)), (42, .lit (.int .i64 (0 : Nat)))] [bufRow (.own 1 0 hd.length none), .bytes 5 hd] (.exit 4) [(1, .ptr 0 0)] [bufRow (.own 2 0 (hd ++ gb b1 l).length none), .gone, .bytes 5 (hd ++ gb b1 l)] := by
  have key := growOwn (P := Tryd.prog) (G := noG) (k := 1) (n := 51) (c := loopAt Tryd.f11 2) (N := l.length) (ex := .exit 4)
    (fun i _ => [(1, .ptr 0 0), (40, roL l), (41, .lit (.int .i64 l.length)), (42, .lit (.int .i64 i))]) (fun _ => [(1, .ptr 0 0)]) (fun w => [bufRow w]) (fun i => .bytes 5 (hd ++ gb b1 (l.take i))) (fun i => (hd ++ gb b1 (l.take i)).length) (by simp) [some 0, some 2]
    (fun i hi => by
      have hx := hv l[i] (List.getElem_mem _)
      have hlen : (hd ++ gb b1 (l.take i)).length ≤ 1000000 := by rw [List.length_append, gb_len b1 1 (fun x => rfl), List.length_take]; omega
      have a := app8I (hd ++ gb b1 (l.take i)) l[i] hlen hx.1 hx.2
      have ha : hd ++ gb b1 (l.take (i + 1)) = hd ++ gb b1 (l.take i) ++ b1 l[i] := by rw [gb_snoc b1 l i hi, List.append_assoc]
      rw [← ha] at a
      have w : IntKind.u8.wrap l[i] = l[i] := by rw [wrapU8]; omega
      have e := m3o l i l[i] (hd ++ gb b1 (l.take i)) (hd ++ gb b1 (l.take (i + 1)))
      simp only [ix i (by omega), getI l i hi, Int.toNat_natCast, w] at e
      exact e (by (simp only [AllP, leAll]; repeat' (first | with_reducible apply And.intro | exact trivial | with_reducible rfl | with_reducible exact Le.refl _ | with_reducible exact RowLe.refl _ | assumption | exact Le.refl _ | exact RowLe.refl _ | omega | (simp <;> omega)))))
    (m3x l l.length (hd ++ gb b1 (l.take l.length)) (by simp [AllP]))
    (fun i hi => rfl) (fun i hi => rfl) (fun i hi => rfl) [some 0, none, some 1] rfl rfl
  simp only [List.take_zero, List.take_length] at key
  have h0 : hd ++ gb b1 [] = hd := by simp [gb]
  rw [h0] at key
  exact key

/-- An array of ulongs, as it is written: where all are below 256, a byte each. -/
def encArr (l : List Int) : List UInt8 := if (∀ x ∈ l, x ≤ 255) then encH (l.length * 1) l.length 83 ++ gb b1 l else encH (l.length * 8) l.length 128 ++ gb b8 l

theorem encArr_len (l : List Int) (hl : l.length ≤ 1000) : 0 < (encArr l).length ∧ (encArr l).length ≤ 9000 := by
  have h1 := encH_len (l.length * 1) l.length 83
  have h2 := encH_len (l.length * 8) l.length 128
  unfold encArr
  split
  · rw [List.length_append, gb_len b1 1 (fun x => rfl)]; omega
  · rw [List.length_append, gb_len b8 8 (fun x => rfl)]; omega

theorem marshal (l : List Int) (hl : l.length ≤ 1000) (hv : ∀ x ∈ l, 0 ≤ x ∧ x < 18446744073709551616) :
    ACalls Tryd.prog noG 11 [roL l, .ptr 0 0] [bufRow (.lit (.slice none 0 0)), .gone] (.lit .nilIface) [bufRow (.own 2 0 (encArr l).length none), .gone, .bytes 5 (encArr l)] := by
  by_cases h : ∀ x ∈ l, x ≤ 255
  · have he : encArr l = encH (l.length * 1) l.length 83 ++ gb b1 l := by rw [encArr, if_pos h]
    rw [he]
    have hd := headArr l.length 1 83 (by omega) (by omega) (by omega) (by omega) (by omega) (by omega)
    have g := encH_len (l.length * 1) l.length 83
    have lp := (small l hl h _ 0 rfl (Nat.zero_le _)).code
    have lq := bytesLoop l (encH (l.length * 1) l.length 83) hl g.2 (fun x hx => ⟨(hv x hx).1, h x hx⟩)
    exact mm1 l (encH (l.length * 1) l.length 83) (encH (l.length * 1) l.length 83 ++ gb b1 l) (by (simp only [AllP, leAll]; repeat' (first | with_reducible apply And.intro | exact trivial | with_reducible rfl | with_reducible exact Le.refl _ | with_reducible exact RowLe.refl _ | assumption | exact Le.refl _ | exact RowLe.refl _ | omega | (simp <;> omega))))
  · have he : encArr l = encH (l.length * 8) l.length 128 ++ gb b8 l := by rw [encArr, if_neg h]
    rw [he]
    have hd := headArr l.length 8 128 (by omega) (by omega) (by omega) (by omega) (by omega) (by omega)
    have g := encH_len (l.length * 8) l.length 128
    have hx : ∃ x ∈ l.drop 0, 255 < x := by
      simp only [List.drop_zero]
      refine Classical.byContradiction fun hn => h fun x hx => ?_
      refine Classical.byContradiction fun h2 => hn ⟨x, hx, by omega⟩
    have lp := (large l hl _ 0 rfl (Nat.zero_le _) hx).code
    have lq := longsLoop l (encH (l.length * 8) l.length 128) hl g.2 hv
    exact mm8 l (encH (l.length * 8) l.length 128) (encH (l.length * 8) l.length 128 ++ gb b8 l) (by (simp only [AllP, leAll]; repeat' (first | with_reducible apply And.intro | exact trivial | with_reducible rfl | with_reducible exact Le.refl _ | with_reducible exact RowLe.refl _ | assumption | exact Le.refl _ | exact RowLe.refl _ | omega | (simp <;> omega))))

theorem marshal0 : ACalls Tryd.prog noG 11 [.lit (.slice none 0 0), .ptr 0 0] [bufRow (.lit (.slice none 0 0))] (.lit .nilIface) [bufRow (.own 1 0 (encArr []).length none), .bytes 5 (encArr [])] := by
  have he : encArr [] = encH 0 0 83 := by decide
  rw [he]
  have h := headArr 0 1 83 (by omega) (by omega) (by omega) (by omega) (by omega) (by omega)
  have lp := (LoopC.exit (m1z (by simp [AllP])) (by simp)).code
  have lq := (LoopC.exit (m3z (encH 0 0 83) (by simp [AllP])) (by simp)).code
  exact mz (encH 0 0 83) (by (simp only [AllP, leAll]; repeat' (first | with_reducible apply And.intro | exact trivial | with_reducible rfl | with_reducible exact Le.refl _ | with_reducible exact RowLe.refl _ | assumption | exact Le.refl _ | exact RowLe.refl _ | omega | (simp <;> omega))))

/-! ### impl.WriteArrayUlong -/
def cU (x : Int) : List AV := [.lit (.int .u64 x)]
theorem cU_cells : LCells cU 1 := ⟨fun x => rfl, fun f x => rfl, fun x => rfl⟩

theorem copyLoop (l : List Int) (hl : l.length ≤ 1000) (h0 : 0 < l.length) :
    CodeC Tryd.prog noG 28 (.loop (loopAt Tryd.f5 0)) [(2, .ptr 0 0), (3, .ptr 1 0), (8, roL l), (9, .lit (.int .i64 l.length)), (10, .lit (.int .i64 (0 : Nat))), (4, .lit (.slice none 0 0))] [.cells 23 1 [.lit (.slice none 0 0)], .cells 4 1 [.lit (.bool false)]] (.exit 0) [(2, .ptr 0 0), (3, .ptr 1 0), (4, .own 2 0 l.length none)] [.cells 23 1 [.lit (.slice none 0 0)], .cells 4 1 [.lit (.bool false)], .cells 26 1 (flatC cU l)] := by
  have hren : ∀ f i, Row.ren f (.cells 26 1 (flatC cU (l.take i))) = .cells 26 1 (flatC cU (l.take i)) := fun f i => by simp only [Row.ren, cU_cells.flatC_ren]
  have key := growNil (P := Tryd.prog) (G := noG) (k := 2) (n := 28) (c := loopAt Tryd.f5 0) (N := l.length) (ex := .exit 0)
    (fun i w => [(2, .ptr 0 0), (3, .ptr 1 0), (8, roL l), (9, .lit (.int .i64 l.length)), (10, .lit (.int .i64 i)), (4, w)]) (fun w => [(2, .ptr 0 0), (3, .ptr 1 0), (4, w)])
    (fun w => [.cells 23 1 [.lit (.slice none 0 0)], .cells 4 1 [.lit (.bool false)]]) (fun i => .cells 26 1 (flatC cU (l.take i))) (fun i => i) (by simp) [some 0, some 1, some 3] (.lit (.slice none 0 0)) h0
    (by
      have e := win l 0
      simp only [ix 0 (by omega), getI l 0 h0, Int.toNat_natCast] at e
      refine (e ?_).cast rfl rfl rfl ?_
      · (simp only [AllP, leAll]; repeat' (first | with_reducible apply And.intro | exact trivial | with_reducible rfl | with_reducible exact Le.refl _ | with_reducible exact RowLe.refl _ | assumption | exact Le.refl _ | exact RowLe.refl _ | omega | (simp <;> omega)))
      · show _ = [_, _, Row.cells 26 1 (flatC cU (l.take (0 + 1)))]
        rw [flatC_snoc l 0 h0]; rfl)
    (fun i hi0 hi => by
      have e := wio l i i (flatC cU (l.take i))
      have t := cU_cells.flatC_take l i (by omega)
      have r := flatC_snoc (C := cU) l i hi
      have q : ∀ f, AV.renL f (flatC cU (l.take i) ++ [.lit (.int .u64 l[i])]) = flatC cU (l.take (i + 1)) := fun f => by rw [r, renL_app', cU_cells.flatC_ren]; rfl
      simp only [ix i (by omega), getI l i hi, Int.toNat_natCast, List.drop_zero, t, q] at e
      exact e (by (simp only [AllP, leAll]; repeat' (first | with_reducible apply And.intro | exact trivial | with_reducible rfl | with_reducible exact Le.refl _ | with_reducible exact RowLe.refl _ | assumption | exact Le.refl _ | exact RowLe.refl _ | omega | (simp <;> omega)))))
    (by
      have e := wixo l l.length l.length (flatC cU (l.take l.length)) (by simp [AllP])
      rw [cU_cells.flatC_ren] at e
      exact e)
    (fun i hi => rfl) (fun i hi => rfl)
    (fun i hi => congrArg (fun x => [Row.cells 23 1 [.lit (.slice none 0 0)], Row.cells 4 1 [.lit (.bool false)], x]) (hren _ (i + 1)))
    [some 0, some 1, some 2] rfl rfl rfl rfl (fun i => congrArg (fun x => [Row.cells 23 1 [.lit (.slice none 0 0)], Row.cells 4 1 [.lit (.bool false)], x]) (hren _ i)) rfl
  simp only [List.take_length] at key
  exact key

theorem writeArr (l : List Int) (hl : l.length ≤ 1000) (hv : ∀ x ∈ l, 0 ≤ x ∧ x < 18446744073709551616) : ACalls Tryd.prog noG 5 [roL l] [] (.tup [.bts (encArr l), .lit (.bool true)]) [] := by
  have g := encArr_len l hl
  have nd := noDataIdle
  have b := (w20 (encArr l) (by simp [AllP])).cast rfl rfl (show _ = AV.own 1 0 (encArr l).length none by simp) rfl
  have c : ACalls Tryd.prog noG 12 [.own 0 0 (encArr l).length none] [.bytes 5 (encArr l)] (.own 1 0 (encArr l).length none) [.bytes 5 (encArr l), .bytes 5 (encArr l)] := (w19 (encArr l) (by simp [AllP]; omega)).cast rfl rfl (by simp) (by simp)
  rcases Nat.eq_zero_or_pos l.length with h0 | h0
  · obtain rfl := List.eq_nil_of_length_eq_zero h0
    have lp : CodeC Tryd.prog noG 28 (.loop (loopAt Tryd.f5 0)) _ _ _ _ _ := (LoopC.exit (wixn [] 0 (by simp [AllP])) (by simp)).code
    have m := marshal0
    have e := wz [] (encArr []) (by (simp only [AllP, leAll]; repeat' (first | with_reducible apply And.intro | exact trivial | with_reducible rfl | with_reducible exact Le.refl _ | with_reducible exact RowLe.refl _ | assumption | exact Le.refl _ | exact RowLe.refl _ | omega | (simp <;> omega))))
    have h2 := (e.freezeRet 0 rfl rfl).only [] (by rfl)
    exact h2.cast rfl rfl (by simp [AV.frz, AV.frzL, frzOwn, AV.ren, AV.renL, List.take_of_length_le]) rfl
  · have lp := copyLoop l hl h0
    have m : ACalls Tryd.prog noG 11 [.own 1 0 l.length none, .ptr 0 0] [bufRow (.lit (.slice none 0 0)), .cells 26 1 (flatC cU l)] (.lit .nilIface) [bufRow (.own 2 0 (encArr l).length none), .gone, .bytes 5 (encArr l)] := by
      refine ACalls.freezeArg 1 (r := .cells 26 1 (flatC cU l)) rfl (cU_cells.flatC_closed l) ?_
      refine (marshal l hl hv).le (args' := [.ro 1 l.length (fun i => ((flatC cU l).drop (0 + i * 1)).take 1), .ptr 0 0]) ⟨cU_cells.le_ro l (fun i hi => by rw [getI l i hi]; rfl), Le.refl _, trivial⟩ (Le.refl _) rfl
    have e := wm l l.length (flatC cU l) (encArr l) (by
      simp only [cU_cells.flatC_ren]
      (simp only [AllP, leAll]; repeat' (first | with_reducible apply And.intro | exact trivial | with_reducible rfl | with_reducible exact Le.refl _ | with_reducible exact RowLe.refl _ | assumption | exact Le.refl _ | exact RowLe.refl _ | omega | (simp <;> omega))))
    have h2 := (e.freezeRet 0 rfl rfl).only [] (by rfl)
    exact h2.cast rfl rfl (by simp [AV.frz, AV.frzL, frzOwn, AV.ren, AV.renL, List.take_of_length_le]) rfl

/-! ### Read back -/
theorem take8 (x : It) (r : List UInt8) (h0 : 0 ≤ x.1) (h1 : x.1 < 18446744073709551616) (h2 : x.2 = .empty) : ACalls Tryd.prog noG 22 [.agg [.lit (.slice none 0 0), .lit (.int .i64 (128 : UInt8).toNat)], .bts (b8 x.1 ++ r), .lit (.int .i64 7)] [] (.tup [.agg (itC 5 x), .bts r, .lit (.bool true)]) [] := by
  obtain ⟨v, s⟩ := x
  simp only at h0 h1 h2
  subst h2
  have b := bigN (b8 v) r 8 v rfl (by omega) (bigB8 v h0 h1)
  have k : ACalls Tryd.prog noG 27 [.lit (.int .i64 128)] [] (.tup [.lit (.int .i64 5), .lit (.int .i64 8), .lit (.bool true)]) [] := k48_128 (by simp [AllP])
  exact e34_128 (b8 v ++ r) r v (by (simp only [AllP, leAll]; repeat' (first | with_reducible apply And.intro | exact trivial | with_reducible rfl | with_reducible exact Le.refl _ | with_reducible exact RowLe.refl _ | assumption | exact Le.refl _ | exact RowLe.refl _ | omega | (simp <;> omega))))
theorem take1 (x : It) (r : List UInt8) (h0 : 0 ≤ x.1) (h1 : x.1 ≤ 255) (h2 : x.2 = .empty) : ACalls Tryd.prog noG 22 [.agg [.lit (.slice none 0 0), .lit (.int .i64 (83 : UInt8).toNat)], .bts (b1 x.1 ++ r), .lit (.int .i64 7)] [] (.tup [.agg (itC 5 x), .bts r, .lit (.bool true)]) [] := by
  obtain ⟨v, s⟩ := x
  simp only at h0 h1 h2
  subst h2
  have b := bigN (b1 v) r 1 v rfl (by omega) (bigB v h0 (by omega))
  have k : ACalls Tryd.prog noG 27 [.lit (.int .i64 83)] [] (.tup [.lit (.int .i64 5), .lit (.int .i64 1), .lit (.bool true)]) [] := k48_83 (by simp [AllP])
  exact e34_83 (b1 v ++ r) r v (by (simp only [AllP, leAll]; repeat' (first | with_reducible apply And.intro | exact trivial | with_reducible rfl | with_reducible exact Le.refl _ | with_reducible exact RowLe.refl _ | assumption | exact Le.refl _ | exact RowLe.refl _ | omega | (simp <;> omega))))

def fItems (l : List Int) : List It := l.map fun v => (v, .empty)
theorem fItems_eb (e : Int → List UInt8) (l : List Int) : eb (fun x => e x.1) (fItems l) = gb e l := by simp [eb, fItems, gb, List.flatMap_map]
theorem fItems_len (l : List Int) : (fItems l).length = l.length := by simp [fItems]

theorem wroteF (l : List Int) (hl : l.length ≤ 1000) (hv : ∀ x ∈ l, 0 ≤ x ∧ x < 18446744073709551616) : ACalls Tryd.prog noG 6 [.bts (encArr l), .lit (.bool true), arrA 5 0 (fItems l)] [] (.lit (.bool true)) [] := by
  have hlen := fItems_len l
  by_cases h : ∀ x ∈ l, x ≤ 255
  · have hz : (eb (fun x => b1 x.1) (fItems l)).length = l.length * 1 := by rw [fItems_eb, gb_len b1 1 (fun x => rfl)]
    obtain ⟨x, hx⟩ := takeArr 5 83 (fItems l) (fun x => b1 x.1) 5 1 (by omega) (by omega) (by decide) (k48_83 (by simp [AllP])) (fun x hx r hr => by
      simp only [fItems, List.mem_map] at hx
      obtain ⟨v, hm, rfl⟩ := hx
      exact take1 (v, .empty) r (hv v hm).1 (h v hm) rfl) (by omega)
    rw [hz, hlen, fItems_eb] at hx
    have he : encH ((l.length * 1 : Nat) : Int) l.length 83 ++ gb b1 l = encArr l := by rw [encArr, if_pos h]; congr 1
    rw [he] at hx
    exact wroteArr 5 (fItems l) x (encArr l) (by omega) hx
  · have hz : (eb (fun x => b8 x.1) (fItems l)).length = l.length * 8 := by rw [fItems_eb, gb_len b8 8 (fun x => rfl)]
    obtain ⟨x, hx⟩ := takeArr 5 128 (fItems l) (fun x => b8 x.1) 5 8 (by omega) (by omega) (by decide) (k48_128 (by simp [AllP])) (fun x hx r hr => by
      simp only [fItems, List.mem_map] at hx
      obtain ⟨v, hm, rfl⟩ := hx
      exact take8 (v, .empty) r (hv v hm).1 (hv v hm).2 rfl) (by omega)
    rw [hz, hlen, fItems_eb] at hx
    have he : encH ((l.length * 8 : Nat) : Int) l.length 128 ++ gb b8 l = encArr l := by rw [encArr, if_neg h]; congr 1
    rw [he] at hx
    exact wroteArr 5 (fItems l) x (encArr l) (by omega) hx

/-! ### The law -/
def cL (v : Int) : List AV := itC 5 (v, .empty)
theorem cL_cells : LCells cL 6 := ⟨fun x => rfl, fun f x => rfl, fun x => rfl⟩

theorem wantLoop (l : List Int) (hl : l.length ≤ 2147483647) (h0 : 0 < l.length) :
    CodeC Tryd.prog noG 56 (.loop (loopAt Tryd.f3 0)) [(0, roL l), (5, .lit (.bool true)), (6, .ptr 0 0), (26, roL l), (27, .lit (.int .i64 l.length)), (28, .lit (.int .i64 (0 : Nat)))] [.cells 30 6 (arrC 0 (.lit (.slice none 0 0)))] (.exit 0) [(0, roL l), (5, .lit (.bool true)), (6, .ptr 0 0)] [.cells 30 6 (arrC 0 (.own 1 0 l.length none)), .cells 30 6 (flatC cL l)] := by
  have K := cL_cells
  have hren : ∀ f i, Row.ren f (.cells 30 6 (flatC cL (l.take i))) = .cells 30 6 (flatC cL (l.take i)) := fun f i => by simp only [Row.ren, K.flatC_ren]
  have key := growNil (P := Tryd.prog) (G := noG) (k := 1) (n := 56) (c := loopAt Tryd.f3 0) (N := l.length) (ex := .exit 0)
    (fun i _ => [(0, roL l), (5, .lit (.bool true)), (6, .ptr 0 0), (26, roL l), (27, .lit (.int .i64 l.length)), (28, .lit (.int .i64 i))])
    (fun _ => [(0, roL l), (5, .lit (.bool true)), (6, .ptr 0 0)])
    (fun w => [.cells 30 6 (arrC 0 w)])
    (fun i => .cells 30 6 (flatC cL (l.take i))) (fun i => i) (by simp) [some 0, some 2] (.lit (.slice none 0 0)) h0
    (by
      have e := afn l 0
      simp only [ix 0 (by omega), getI l 0 h0, Int.toNat_natCast] at e
      refine (e ?_).cast rfl rfl rfl ?_
      · (simp only [AllP, leAll]; repeat' (first | with_reducible apply And.intro | exact trivial | with_reducible rfl | with_reducible exact Le.refl _ | with_reducible exact RowLe.refl _ | assumption | exact Le.refl _ | exact RowLe.refl _ | omega | (simp <;> omega)))
      · show _ = [_, Row.cells 30 6 (flatC cL (l.take (0 + 1)))]
        rw [flatC_snoc l 0 h0]; rfl)
    (fun i hi0 hi => by
      have e := afo l i i (flatC cL (l.take i))
      have t := K.flatC_take l i (by omega)
      have r := flatC_snoc (C := cL) l i hi
      have q : ∀ f, AV.renL f (flatC cL (l.take i) ++ [AV.lit (.int .i64 5), .lit (.int .u64 l[i]), .lit (.string (ByteArray.mk #[])), .lit (.slice none 0 0), .lit (.int .i64 0), .lit (.slice none 0 0)]) = flatC cL (l.take (i + 1)) := fun f => by rw [r, renL_app', K.flatC_ren]; rfl
      simp only [ix i (by omega), getI l i hi, Int.toNat_natCast, List.drop_zero, t, q] at e
      exact e (by (simp only [AllP, leAll]; repeat' (first | with_reducible apply And.intro | exact trivial | with_reducible rfl | with_reducible exact Le.refl _ | with_reducible exact RowLe.refl _ | assumption | exact Le.refl _ | exact RowLe.refl _ | omega | (simp <;> omega)))))
    (by
      have e := afxo l l.length l.length (flatC cL (l.take l.length)) (by simp [AllP])
      rw [K.flatC_ren] at e
      exact e)
    (fun i hi => rfl) (fun i hi => rfl)
    (fun i hi => congrArg (fun x => [Row.cells 30 6 (arrC 0 (.own 1 0 (i + 1) none)), x]) (hren _ (i + 1)))
    [some 0, some 1] rfl rfl rfl rfl
    (fun i => congrArg (fun x => [Row.cells 30 6 (arrC 0 (.own 1 0 i none)), x]) (hren _ i)) rfl
  simp only [List.take_length] at key
  exact key

theorem wroteOwn (d : List UInt8) (l : List Int) (cap : Option Nat) (h : ACalls Tryd.prog noG 6 [.bts d, .lit (.bool true), arrA 5 0 (fItems l)] [] (.lit (.bool true)) []) :
    ACalls Tryd.prog noG 6 [.bts d, .lit (.bool true), .agg (arrC 0 (.own 0 0 l.length cap))] [.cells 30 6 (flatC cL l)] (.lit (.bool true)) [.gone] := by
  refine ACalls.freezeArg 0 (r := .cells 30 6 (flatC cL l)) rfl (cL_cells.flatC_closed l) ?_
  have hlen : (fItems l).length = l.length := by simp [fItems]
  refine ((h.le (args' := [.bts d, .lit (.bool true), .agg (arrC 0 (.ro 6 l.length (fun i => ((flatC cL l).drop (0 + i * 6)).take 6)))]) ?_ (Le.refl _) rfl).frame [.gone] ?_ rfl).cast rfl rfl rfl rfl
  · refine ⟨Le.refl _, Le.refl _, Le_agg ⟨Le.refl _, Le.refl _, Le.refl _, ?_, Le.refl _, Le.refl _, trivial⟩, trivial⟩
    rw [roK, hlen]
    exact cL_cells.le_ro l (fun i hi => by simp [fItems, hi, cL])
  · exact ⟨Le.refl _, Le.refl _, Le.refl _, trivial⟩

theorem fnWriteArrayUlong (l : List Int) (hv : ∀ x ∈ l, 0 ≤ x ∧ x < 18446744073709551616) : ACalls Tryd.prog noG 3 [roL l] [] (.lit (.bool true)) [] := by
  by_cases h1 : (2147483647 : Int) < l.length
  · exact af5a l (by simp [AllP, h1])
  · have d0 : Decidable.decide ((l.length : Int) > 2147483647) = false := by simp; omega
    have a5 : ∀ x ∈ ([5] : List Int), 0 ≤ x ∧ x < 18446744073709551616 := by simp
    have e5 : encArr [5] = [224, 3, 1, 83, 5] := by decide
    have aw : ACalls Tryd.prog noG 5 [.own 0 0 1 (some 1)] [.cells 26 1 [.lit (.int .u64 5)]] (.tup [.bts [224, 3, 1, 83, 5], .lit (.bool true)]) [.gone] := by
      refine ACalls.freezeArg 0 (r := .cells 26 1 [.lit (.int .u64 5)]) rfl rfl ?_
      have h := writeArr [5] (by simp) a5
      rw [e5] at h
      refine ((h.le (args' := [.ro 1 1 (fun i => (([AV.lit (.int .u64 5)]).drop (0 + i * 1)).take 1)]) ?_ (Le.refl _) rfl).frame [.gone] ?_ rfl).cast rfl rfl rfl rfl
      · exact ⟨Le_ro fun i hi => by have : i = 0 := by omega
                                    subst this; rfl, trivial⟩
      · exact ⟨Le.refl _, trivial⟩
    have aw2 : ACalls Tryd.prog noG 6 [.bts [224, 3, 1, 83, 5], .lit (.bool true), .agg (arrC 0 (.own 0 0 1 (some 1)))] [.cells 30 6 (itC 5 (5, .empty))] (.lit (.bool true)) [.gone] := by
      have h := wroteF [5] (by simp) a5
      rw [e5] at h
      exact wroteOwn _ [5] (some 1) h
    rcases Nat.eq_zero_or_pos l.length with h3 | h3
    · obtain rfl := List.eq_nil_of_length_eq_zero h3
      have w := writeArr [] (by simp) hv
      have r := wroteF [] (by simp) hv
      have r2 : ACalls Tryd.prog noG 6 [.bts (encArr []), .lit (.bool true), .agg (arrC 0 (.lit (.slice none 0 0)))] [] (.lit (.bool true)) [] :=
        r.le (args' := _) ⟨Le.refl _, Le.refl _, Le_agg ⟨Le.refl _, Le.refl _, Le.refl _, Le_nil_ro, Le.refl _, Le.refl _, trivial⟩, trivial⟩ (Le.refl _) rfl
      have lp : CodeC Tryd.prog noG 56 (.loop (loopAt Tryd.f3 0)) _ _ _ _ _ := (LoopC.exit (afxn [] 0 (by simp [AllP])) (by simp)).code
      exact af5c [] (encArr []) (by (simp only [AllP, leAll]; repeat' (first | with_reducible apply And.intro | exact trivial | with_reducible rfl | with_reducible exact Le.refl _ | with_reducible exact RowLe.refl _ | assumption | exact Le.refl _ | exact RowLe.refl _ | omega | (simp <;> omega))))
    · have lp := wantLoop l (by omega) h3
      by_cases h2 : l.length ≤ 300
      · have w := writeArr l (by omega) hv
        have r := wroteOwn _ l none (wroteF l (by omega) hv)
        have d1 : Decidable.decide ((l.length : Int) > 300) = false := by simp; omega
        refine af5d l (encArr l) l.length (flatC cL l) ?_
        simp only [cL_cells.flatC_ren]
        (simp only [AllP, leAll]; repeat' (first | with_reducible apply And.intro | exact trivial | with_reducible rfl | with_reducible exact Le.refl _ | with_reducible exact RowLe.refl _ | assumption | exact Le.refl _ | exact RowLe.refl _ | omega | (simp <;> omega)))
      · have d1 : Decidable.decide ((l.length : Int) > 300) = true := by simp; omega
        exact af5b l l.length (flatC cL l) (by (simp only [AllP, leAll]; repeat' (first | with_reducible apply And.intro | exact trivial | with_reducible rfl | with_reducible exact Le.refl _ | with_reducible exact RowLe.refl _ | assumption | exact Le.refl _ | exact RowLe.refl _ | omega | (simp <;> omega))))
end Go.Ax
