/-
  laws.FnWriteArrayFloat: what is written, function by function.
-/
import Derived.Test.YtmaofopbhlcgkaaDoorAfB
import Derived.Test.YtmaofopbhlcgkaaDoorWiC
import Derived.Test.YtmaofopbhlcgkaaDoorAx31
set_option linter.unusedVariables false
set_option linter.unusedSimpArgs false
set_option maxRecDepth 100000
namespace Go.Ax
open Go.Proofs

def b4 (v : Int) : List UInt8 := [byteI (v / 16777216), byteI (v / 65536), byteI (v / 256), byteI v]

theorem app32 (bs : List UInt8) (v : Int) (h : bs.length ≤ 1000000) (h0 : 0 ≤ v) (h1 : v < 4294967296) : ACalls Tryd.prog noG 37 [.ptr 0 0, .lit (.int .u32 v)] [bufRow (.own 1 0 bs.length none), .bytes 5 bs] (.tup []) [bufRow (.own 2 0 (bs ++ b4 v).length none), .gone, .bytes 5 (bs ++ b4 v)] := by
  have f1 : v.fdiv 256 = v / 256 := by rw [Int.fdiv_eq_ediv_of_nonneg _ (by omega)]
  have f2 : v.fdiv 65536 = v / 65536 := by rw [Int.fdiv_eq_ediv_of_nonneg _ (by omega)]
  have f3 : v.fdiv 16777216 = v / 16777216 := by rw [Int.fdiv_eq_ediv_of_nonneg _ (by omega)]
  have e := a4o bs v
  simp only [f1, f2, f3, wrapU8, byteI_toNat] at e
  refine (e ?_).cast rfl rfl rfl (by simp [b4, bufRow])
  simp only [AllP]
  refine ⟨by omega, by omega, ⟨by omega, by omega⟩, ⟨by omega, by omega⟩, ⟨by omega, by omega⟩, ⟨by omega, by omega⟩, by omega, by omega, by omega, trivial⟩

theorem app8 (bs : List UInt8) (c : UInt8) (h : bs.length ≤ 1000000) : ACalls Tryd.prog noG 47 [.ptr 0 0, .lit (.int .u8 c.toNat)] [bufRow (.own 1 0 bs.length none), .bytes 5 bs] (.tup []) [bufRow (.own 2 0 (bs ++ [c]).length none), .gone, .bytes 5 (bs ++ [c])] := by
  have hc := c.toNat_lt
  have e := abo bs c.toNat (by simp only [AllP]; exact ⟨by omega, by omega, ⟨by omega, by omega⟩, trivial⟩)
  exact e.cast rfl rfl rfl (by simp [bufRow])

theorem app0 (c : UInt8) : ACalls Tryd.prog noG 47 [.ptr 0 0, .lit (.int .u8 c.toNat)] [bufRow (.lit (.slice none 0 0))] (.tup []) [bufRow (.own 1 0 1 none), .bytes 5 [c]] := by
  have hc := c.toNat_lt
  exact (abn c.toNat (by simp only [AllP]; exact ⟨by omega, ⟨by omega, by omega⟩, ⟨by omega, by omega⟩, trivial⟩)).cast rfl rfl rfl (by simp [bufRow])

/-- The head of an array: n elements, whose bytes behind the constructor are 'z', of the constructor c. -/
def encH (z n : Int) (c : UInt8) : List UInt8 := if z + 2 ≤ 255 then [224, byteI (z + 2), byteI n, c] else [240] ++ b4 (z + 5) ++ b4 n ++ [c]

theorem headArr (n s : Int) (c : UInt8) (h0 : 0 ≤ n) (h1 : 0 ≤ s) (h2 : n ≤ 1000000) (h3 : 0 ≤ n * s) (h4 : n * s ≤ 1000000000) (h5 : n ≤ n * s) : ACalls Tryd.prog noG 36 [.ptr 0 0, .lit (.int .i64 n), .lit (.int .i64 s), .lit (.int .u8 c.toNat)] [bufRow (.lit (.slice none 0 0))] (.tup []) [bufRow (.own 1 0 (encH (n * s) n c).length none), .bytes 5 (encH (n * s) n c)] := by
  have hc := c.toNat_lt
  have w1 : IntKind.i64.wrap (n * s) = n * s := wrap64 (by omega) (by omega)
  have w2 : IntKind.i64.wrap (n * s + 2) = n * s + 2 := wrap64 (by omega) (by omega)
  have w3 : IntKind.i64.wrap (n * s + 5) = n * s + 5 := wrap64 (by omega) (by omega)
  by_cases h : n * s + 2 ≤ 255
  · have a := apN [224, byteI (n * s + 2), byteI n, c] 4 (by simp) (by simp)
    have he : encH (n * s) n c = [224, byteI (n * s + 2), byteI n, c] := by simp [encH, h]
    rw [he]
    have b : ∀ x : UInt8, UInt8.ofNat ((x.toNat : Int).toNat) = x := fun x => by simp
    have b2 : ∀ x : UInt8, UInt8.ofNat x.toNat = x := fun x => by simp
    have q := ahs n s ((n * s + 2) % 256) (n % 256) c.toNat
    simp only [w1, w2, w3, wrapU8, byteI_toNat, b, b2, Int.toNat_natCast] at q
    refine q ?_
    (simp only [AllP, leAll]; repeat' (first | with_reducible apply And.intro | exact trivial | with_reducible rfl | with_reducible exact Le.refl _ | with_reducible exact RowLe.refl _ | assumption | exact Le.refl _ | exact RowLe.refl _ | omega | (simp <;> omega)))
  · have he : encH (n * s) n c = [240] ++ b4 (n * s + 5) ++ b4 n ++ [c] := by simp [encH, h]
    rw [he]
    have w4 : IntKind.u32.wrap (n * s + 5) = n * s + 5 := by rw [wrapU32]; omega
    have w5 : IntKind.u32.wrap n = n := by rw [wrapU32]; omega
    have q := ahb n s (n * s + 5) n c.toNat ([240] ++ b4 (n * s + 5)) ([240] ++ b4 (n * s + 5) ++ b4 n) ([240] ++ b4 (n * s + 5) ++ b4 n ++ [c])
    simp only [w1, w2, w3, w4, w5] at q
    have a1 := app0 240
    have a2 := app32 [240] (n * s + 5) (by simp) (by omega) (by omega)
    have a3 := app32 ([240] ++ b4 (n * s + 5)) n (by simp [b4]) (by omega) (by omega)
    have a4 := app8 ([240] ++ b4 (n * s + 5) ++ b4 n) c (by simp [b4])
    refine q ?_
    (simp only [AllP, leAll]; repeat' (first | with_reducible apply And.intro | exact trivial | with_reducible rfl | with_reducible exact Le.refl _ | with_reducible exact RowLe.refl _ | assumption | exact Le.refl _ | exact RowLe.refl _ | omega | (simp <;> omega)))

theorem encH_len (z n : Int) (c : UInt8) : 0 < (encH z n c).length ∧ (encH z n c).length ≤ 10 := by
  unfold encH
  split <;> simp [b4]

/-! ### Marshal -/
theorem ix (i : Nat) (h : i ≤ 1000000000000) : IntKind.i64.wrap ((i : Int) + 1) = ((i + 1 : Nat) : Int) := by rw [wrap64 (by omega) (by omega)]; simp
theorem getI (l : List Int) (i : Nat) (h : i < l.length) : l.getD i 0 = l[i] := by simp [h]
def fb (l : List Int) : List UInt8 := l.flatMap b4
theorem fb_len (l : List Int) : (fb l).length = l.length * 4 := by
  induction l with
  | nil => rfl
  | cons x l ih => simp only [fb, List.flatMap_cons, List.length_append] at ih ⊢; rw [ih]; simp [b4]; omega
theorem fb_snoc (l : List Int) (i : Nat) (h : i < l.length) : fb (l.take (i + 1)) = fb (l.take i) ++ b4 l[i] := by
  simp only [fb, List.take_succ_eq_append_getElem h, List.flatMap_append, List.flatMap_cons, List.flatMap_nil, List.append_nil]

theorem marshalLoop (l : List Int) (hd : List UInt8) (hl : l.length ≤ 1000) (hh : hd.length ≤ 10) (hv : ∀ x ∈ l, 0 ≤ x ∧ x < 4294967296) :
    CodeC Tryd.prog noG 22 (.loop (loopAt Tryd.f26 0)) [(1, .ptr 0 0), (11, roF l), (12, .lit (.int .i64 l.length)), (13, .lit (.int .i64 (0 : Nat)))] [bufRow (.own 1 0 hd.length none), .bytes 5 hd] (.exit 0) [(1, .ptr 0 0)] [bufRow (.own 2 0 (hd ++ fb l).length none), .gone, .bytes 5 (hd ++ fb l)] := by
  have key := growOwn (P := Tryd.prog) (G := noG) (k := 1) (n := 22) (c := loopAt Tryd.f26 0) (N := l.length) (ex := .exit 0)
    (fun i _ => [(1, .ptr 0 0), (11, roF l), (12, .lit (.int .i64 l.length)), (13, .lit (.int .i64 i))]) (fun _ => [(1, .ptr 0 0)]) (fun w => [bufRow w]) (fun i => .bytes 5 (hd ++ fb (l.take i))) (fun i => (hd ++ fb (l.take i)).length) (by simp) [some 0, some 2]
    (fun i hi => by
      have hx := hv l[i] (List.getElem_mem _)
      have hlen : (hd ++ fb (l.take i)).length ≤ 1000000 := by rw [List.length_append, fb_len, List.length_take]; omega
      have a := app32 (hd ++ fb (l.take i)) l[i] hlen hx.1 hx.2
      have ha : hd ++ fb (l.take (i + 1)) = hd ++ fb (l.take i) ++ b4 l[i] := by rw [fb_snoc l i hi, List.append_assoc]
      rw [← ha] at a
      have e := mlo l i (hd ++ fb (l.take i)) (hd ++ fb (l.take (i + 1)))
      have w : ((l[i].toNat : Nat) : Int) = l[i] := by omega
      simp only [ix i (by omega), getI l i hi, Int.toNat_natCast, w] at e
      refine e ?_
      (simp only [AllP, leAll]; repeat' (first | with_reducible apply And.intro | exact trivial | with_reducible rfl | with_reducible exact Le.refl _ | with_reducible exact RowLe.refl _ | assumption | exact Le.refl _ | exact RowLe.refl _ | omega | (simp <;> omega))))
    (mlx l l.length (hd ++ fb (l.take l.length)) (by simp [AllP]))
    (fun i hi => rfl) (fun i hi => rfl) (fun i hi => rfl) [some 0, none, some 1] rfl rfl
  simp only [List.take_zero, List.take_length] at key
  have h0 : hd ++ fb [] = hd := by simp [fb]
  rw [h0] at key
  exact key

theorem marshal (l : List Int) (hl : l.length ≤ 1000) (hv : ∀ x ∈ l, 0 ≤ x ∧ x < 4294967296) :
    ACalls Tryd.prog noG 26 [roF l, .ptr 0 0] [bufRow (.lit (.slice none 0 0)), .gone] (.lit .nilIface) [bufRow (.own 2 0 (encH (l.length * 4) l.length 114 ++ fb l).length none), .gone, .bytes 5 (encH (l.length * 4) l.length 114 ++ fb l)] := by
  have h := headArr l.length 4 114 (by omega) (by omega) (by omega) (by omega) (by omega) (by omega)
  have g := encH_len (l.length * 4) l.length 114
  have lp := marshalLoop l (encH (l.length * 4) l.length 114) hl g.2 hv
  refine mm l (encH (l.length * 4) l.length 114) (encH (l.length * 4) l.length 114 ++ fb l) ?_
  (simp only [AllP, leAll]; repeat' (first | with_reducible apply And.intro | exact trivial | with_reducible rfl | with_reducible exact Le.refl _ | with_reducible exact RowLe.refl _ | assumption | exact Le.refl _ | exact RowLe.refl _ | omega | (simp <;> omega)))

theorem marshal0 : ACalls Tryd.prog noG 26 [.lit (.slice none 0 0), .ptr 0 0] [bufRow (.lit (.slice none 0 0))] (.lit .nilIface) [bufRow (.own 1 0 (encH 0 0 114).length none), .bytes 5 (encH 0 0 114)] := by
  have h := headArr 0 4 114 (by omega) (by omega) (by omega) (by omega) (by omega) (by omega)
  have lp := (LoopC.exit (mlz (encH 0 0 114) (by simp [AllP])) (by simp)).code
  refine mz (encH 0 0 114) ?_
  (simp only [AllP, leAll]; repeat' (first | with_reducible apply And.intro | exact trivial | with_reducible rfl | with_reducible exact Le.refl _ | with_reducible exact RowLe.refl _ | assumption | exact Le.refl _ | exact RowLe.refl _ | omega | (simp <;> omega)))

/-! ### impl.WriteArrayFloat -/
def cF (x : Int) : List AV := [.lit (.float .f32 x.toNat)]
theorem cF_cells : LCells cF 1 := ⟨fun x => rfl, fun f x => rfl, fun x => rfl⟩

theorem floatsLoop (l : List Int) (hl : l.length ≤ 1000) (h0 : 0 < l.length) :
    CodeC Tryd.prog noG 29 (.loop (loopAt Tryd.f12 0)) [(2, .ptr 0 0), (3, .ptr 1 0), (8, roU l), (9, .lit (.int .i64 l.length)), (10, .lit (.int .i64 (0 : Nat))), (4, .lit (.slice none 0 0))] [.cells 22 1 [.lit (.slice none 0 0)], .cells 4 1 [.lit (.bool false)]] (.exit 0) [(2, .ptr 0 0), (3, .ptr 1 0), (4, .own 2 0 l.length none)] [.cells 22 1 [.lit (.slice none 0 0)], .cells 4 1 [.lit (.bool false)], .cells 70 1 (flatC cF l)] := by
  have hren : ∀ f i, Row.ren f (.cells 70 1 (flatC cF (l.take i))) = .cells 70 1 (flatC cF (l.take i)) := fun f i => by simp only [Row.ren, cF_cells.flatC_ren]
  have key := growNil (P := Tryd.prog) (G := noG) (k := 2) (n := 29) (c := loopAt Tryd.f12 0) (N := l.length) (ex := .exit 0)
    (fun i w => [(2, .ptr 0 0), (3, .ptr 1 0), (8, roU l), (9, .lit (.int .i64 l.length)), (10, .lit (.int .i64 i)), (4, w)]) (fun w => [(2, .ptr 0 0), (3, .ptr 1 0), (4, w)])
    (fun w => [.cells 22 1 [.lit (.slice none 0 0)], .cells 4 1 [.lit (.bool false)]]) (fun i => .cells 70 1 (flatC cF (l.take i))) (fun i => i) (by simp) [some 0, some 1, some 3] (.lit (.slice none 0 0)) h0
    (by
      have e := win l 0
      simp only [ix 0 (by omega), getI l 0 h0, Int.toNat_natCast] at e
      refine (e ?_).cast rfl rfl rfl ?_
      · simp only [AllP]; exact ⟨⟨by omega, by omega, by omega, trivial⟩, ⟨by omega, by omega⟩, by simp; omega, trivial⟩
      · show _ = [_, _, Row.cells 70 1 (flatC cF (l.take (0 + 1)))]
        rw [flatC_snoc l 0 h0]; rfl)
    (fun i hi0 hi => by
      have e := wio l i i (flatC cF (l.take i))
      have t := cF_cells.flatC_take l i (by omega)
      have r := flatC_snoc (C := cF) l i hi
      have q : ∀ f, AV.renL f (flatC cF (l.take i) ++ [.lit (.float .f32 l[i].toNat)]) = flatC cF (l.take (i + 1)) := fun f => by rw [r, renL_app', cF_cells.flatC_ren]; rfl
      simp only [ix i (by omega), getI l i hi, Int.toNat_natCast, List.drop_zero, t, q] at e
      exact e (by simp only [AllP]; exact ⟨⟨by omega, by omega, trivial⟩, ⟨by omega, by omega⟩, by simp; omega, trivial⟩))
    (by
      have e := wixo l l.length l.length (flatC cF (l.take l.length)) (by simp [AllP])
      rw [cF_cells.flatC_ren] at e
      exact e)
    (fun i hi => rfl) (fun i hi => rfl)
    (fun i hi => congrArg (fun x => [Row.cells 22 1 [.lit (.slice none 0 0)], Row.cells 4 1 [.lit (.bool false)], x]) (hren _ (i + 1)))
    [some 0, some 1, some 2] rfl rfl rfl rfl (fun i => congrArg (fun x => [Row.cells 22 1 [.lit (.slice none 0 0)], Row.cells 4 1 [.lit (.bool false)], x]) (hren _ i)) rfl
  simp only [List.take_length] at key
  exact key

def encArr (l : List Int) : List UInt8 := encH (l.length * 4) l.length 114 ++ fb l

theorem encArr_len (l : List Int) (hl : l.length ≤ 1000) : 0 < (encArr l).length ∧ (encArr l).length ≤ 5000 := by
  have := encH_len (l.length * 4) l.length 114
  simp only [encArr, List.length_append, fb_len]
  omega

theorem writeArr (l : List Int) (hl : l.length ≤ 1000) (hv : ∀ x ∈ l, 0 ≤ x ∧ x < 4294967296) : ACalls Tryd.prog noG 12 [roU l] [] (.tup [.bts (encArr l), .lit (.bool true)]) [] := by
  have g := encArr_len l hl
  have nd := noDataIdle
  have b := (w20 (encArr l) (by simp [AllP])).cast rfl rfl (show _ = AV.own 1 0 (encArr l).length none by simp) rfl
  have c : ACalls Tryd.prog noG 19 [.own 0 0 (encArr l).length none] [.bytes 5 (encArr l)] (.own 1 0 (encArr l).length none) [.bytes 5 (encArr l), .bytes 5 (encArr l)] := (w19 (encArr l) (by simp [AllP]; omega)).cast rfl rfl (by simp) (by simp)
  rcases Nat.eq_zero_or_pos l.length with h0 | h0
  · obtain rfl := List.eq_nil_of_length_eq_zero h0
    have lp : CodeC Tryd.prog noG 29 (.loop (loopAt Tryd.f12 0)) _ _ _ _ _ := (LoopC.exit (wixn [] 0 (by simp [AllP])) (by simp)).code
    have m : ACalls Tryd.prog noG 26 [.lit (.slice none 0 0), .ptr 0 0] [bufRow (.lit (.slice none 0 0))] (.lit .nilIface) [bufRow (.own 1 0 (encArr []).length none), .bytes 5 (encArr [])] := marshal0
    have e := wz [] (encArr []) (by
      (simp only [AllP, leAll]; repeat' (first | with_reducible apply And.intro | exact trivial | with_reducible rfl | with_reducible exact Le.refl _ | with_reducible exact RowLe.refl _ | assumption | exact Le.refl _ | exact RowLe.refl _ | omega | (simp <;> omega))))
    have h2 := (e.freezeRet 0 rfl rfl).only [] (by rfl)
    exact h2.cast rfl rfl (by simp [AV.frz, AV.frzL, frzOwn, AV.ren, AV.renL, List.take_of_length_le]) rfl
  · have lp := floatsLoop l hl h0
    have m : ACalls Tryd.prog noG 26 [.own 1 0 l.length none, .ptr 0 0] [bufRow (.lit (.slice none 0 0)), .cells 70 1 (flatC cF l)] (.lit .nilIface) [bufRow (.own 2 0 (encArr l).length none), .gone, .bytes 5 (encArr l)] := by
      refine ACalls.freezeArg 1 (r := .cells 70 1 (flatC cF l)) rfl (cF_cells.flatC_closed l) ?_
      refine (marshal l hl hv).le (args' := [.ro 1 l.length (fun i => ((flatC cF l).drop (0 + i * 1)).take 1), .ptr 0 0]) ⟨cF_cells.le_ro l (fun i hi => by rw [getI l i hi]; rfl), Le.refl _, trivial⟩ (Le.refl _) rfl
    have e := wm l l.length (flatC cF l) (encArr l) (by
      simp only [cF_cells.flatC_ren]
      (simp only [AllP, leAll]; repeat' (first | with_reducible apply And.intro | exact trivial | with_reducible rfl | with_reducible exact Le.refl _ | with_reducible exact RowLe.refl _ | assumption | exact Le.refl _ | exact RowLe.refl _ | omega | (simp <;> omega))))
    have h2 := (e.freezeRet 0 rfl rfl).only [] (by rfl)
    exact h2.cast rfl rfl (by simp [AV.frz, AV.frzL, frzOwn, AV.ren, AV.renL, List.take_of_length_le]) rfl
end Go.Ax
