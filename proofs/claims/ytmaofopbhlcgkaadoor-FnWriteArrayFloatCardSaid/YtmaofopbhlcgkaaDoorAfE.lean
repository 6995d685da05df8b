/-
  laws.FnWriteArrayFloat: an array as a whole is read back; values are compared; the law.
-/
import Derived.Test.YtmaofopbhlcgkaaDoorAfD
set_option linter.unusedVariables false
set_option linter.unusedSimpArgs false
set_option maxRecDepth 100000
namespace Go.Ax
open Go.Proofs

theorem k33n (c : UInt8) (l : List UInt8) (n : Int) (h0 : c.toNat ≠ 0) (hn : IntKind.i64.wrap (c.toNat : Int) = n) : ACalls Tryd.prog noG 33 [.bts (c :: l), .lit (.int .i64 8)] [] (.tup [.agg [.lit (.slice none 0 0), .lit (.int .i64 n)], .bts l, .lit (.bool true)]) [] := by
  have e := k33 c l (by simp [AllP]; omega)
  subst hn
  refine e.cast rfl rfl ?_ rfl
  show AV.tup [_, .bts (List.drop 1 (List.take (l.length + 1) (c :: l))), _] = _
  rw [show List.drop 1 (List.take (l.length + 1) (c :: l)) = l by simp]
  rfl

theorem bigB (v : Int) (h0 : 0 ≤ v) (h1 : v < 256) : ((bigA 0 [byteI v] : Nat) : Int) = v := by
  have := big8 v
  rw [this]; omega
theorem bigB4 (v : Int) (h0 : 0 ≤ v) (h1 : v < 4294967296) : ((bigA 0 (b4 v) : Nat) : Int) = v := by
  have := big32 v
  rw [b4, this]; omega
theorem bigN (d e : List UInt8) (k : Nat) (n : Int) (h1 : d.length = k) (h2 : k < 1000) (h3 : ((bigA 0 d : Nat) : Int) = n) : ACalls Tryd.prog noG 49 [.bts (d ++ e), .lit (.int .i64 k)] [] (.tup [.lit (.int .u64 n), .bts e, .lit (.bool true)]) [] := by
  subst h1; subst h3
  exact (takeBig (d ++ e) d.length (by simp) h2).cast rfl rfl (by simp) rfl

section
variable (k : Int) (c : UInt8) (items : List It) (enc : It → List UInt8)
/-- An array, read. -/
theorem takeArr (e s : Int) (hz : (eb enc items).length ≤ 10000000) (hn : items.length ≤ (eb enc items).length) (hc0 : c.toNat ≠ 0)
    (hk : ACalls Tryd.prog noG 48 [.lit (.int .i64 c.toNat)] [] (.tup [.lit (.int .i64 e), .lit (.int .i64 s), .lit (.bool true)]) [])
    (ht : ∀ x ∈ items, ∀ r, ACalls Tryd.prog noG 34 [.agg [.lit (.slice none 0 0), .lit (.int .i64 c.toNat)], .bts (enc x ++ r), .lit (.int .i64 7)] [] (.tup [.agg (itC k x), .bts r, .lit (.bool true)]) []) (hl : items.length ≤ 1000000) :
    ∃ x, ACalls Tryd.prog noG 21 [.bts (encH (eb enc items).length items.length c ++ eb enc items), .lit (.int .i64 8)] [] (.tup [arrA k x items, .bts [], .lit (.bool true)]) [] := by
  generalize hzz : (eb enc items).length = z at hz hn
  by_cases h : (z : Int) + 2 ≤ 255
  · obtain ⟨x, hx⟩ := arrWithin k c items enc 1 [byteI items.length] e s (by omega) (by omega) rfl (by have := bigB items.length (by omega) (by omega); omega) hl (by omega) hc0 hk ht
    have he : encH z items.length c ++ eb enc items = 224 :: ([byteI ((z : Int) + 2)] ++ ([byteI items.length] ++ c :: eb enc items)) := by simp [encH, h]
    have hlen : ([byteI items.length] ++ c :: eb enc items).length = z + 2 := by simp [hzz]
    rw [he]
    generalize hd : [byteI items.length] ++ c :: eb enc items = d at hx hlen
    have hb := bigN [byteI ((z : Int) + 2)] d 1 d.length rfl (by omega) (by rw [bigB _ (by omega) (by omega), hlen]; omega)
    have hk2 : ACalls Tryd.prog noG 48 [.lit (.int .i64 224)] [] (.tup [.lit (.int .i64 23), .lit (.int .i64 1), .lit (.bool true)]) [] := k48_224 (by simp [AllP])
    have t := a34_224 k x ([byteI ((z : Int) + 2)] ++ d) d [] d.length items (by (simp only [AllP, leAll]; repeat' (first | with_reducible apply And.intro | exact trivial | with_reducible rfl | with_reducible exact Le.refl _ | with_reducible exact RowLe.refl _ | assumption | exact Le.refl _ | exact RowLe.refl _ | omega | (simp <;> omega))))
    have g := k33n 224 ([byteI ((z : Int) + 2)] ++ d) 224 (by decide) (by decide)
    exact ⟨x, k21r 224 k x (224 :: ([byteI ((z : Int) + 2)] ++ d)) ([byteI ((z : Int) + 2)] ++ d) items (by (simp only [AllP, leAll]; repeat' (first | with_reducible apply And.intro | exact trivial | with_reducible rfl | with_reducible exact Le.refl _ | with_reducible exact RowLe.refl _ | assumption | exact Le.refl _ | exact RowLe.refl _ | omega | (simp <;> omega))))⟩
  · obtain ⟨x, hx⟩ := arrWithin k c items enc 4 (b4 items.length) e s (by omega) (by omega) rfl (by have := bigB4 items.length (by omega) (by omega); omega) hl (by omega) hc0 hk ht
    have he : encH z items.length c ++ eb enc items = 240 :: (b4 ((z : Int) + 5) ++ (b4 items.length ++ c :: eb enc items)) := by simp [encH, h]
    have hlen : (b4 items.length ++ c :: eb enc items).length = z + 5 := by simp [hzz, b4]
    rw [he]
    generalize hd : b4 items.length ++ c :: eb enc items = d at hx hlen
    have hb := bigN (b4 ((z : Int) + 5)) d 4 d.length rfl (by omega) (by rw [bigB4 _ (by omega) (by omega), hlen]; omega)
    have hk2 : ACalls Tryd.prog noG 48 [.lit (.int .i64 240)] [] (.tup [.lit (.int .i64 23), .lit (.int .i64 4), .lit (.bool true)]) [] := k48_240 (by simp [AllP])
    have t := a34_240 k x (b4 ((z : Int) + 5) ++ d) d [] d.length items (by (simp only [AllP, leAll]; repeat' (first | with_reducible apply And.intro | exact trivial | with_reducible rfl | with_reducible exact Le.refl _ | with_reducible exact RowLe.refl _ | assumption | exact Le.refl _ | exact RowLe.refl _ | omega | (simp <;> omega))))
    have g := k33n 240 (b4 ((z : Int) + 5) ++ d) 240 (by decide) (by decide)
    exact ⟨x, k21r 240 k x (240 :: (b4 ((z : Int) + 5) ++ d)) (b4 ((z : Int) + 5) ++ d) items (by (simp only [AllP, leAll]; repeat' (first | with_reducible apply And.intro | exact trivial | with_reducible rfl | with_reducible exact Le.refl _ | with_reducible exact RowLe.refl _ | assumption | exact Le.refl _ | exact RowLe.refl _ | omega | (simp <;> omega))))⟩

/-! ### The same value -/
omit c enc
theorem sameIt (x : It) : ACalls Tryd.prog noG 22 [.agg (itC k x), .agg (itC k x)] [] (.lit (.bool true)) [] := by
  have l := (LoopC.exit (svz k x (by simp [AllP])) (by simp)).code
  exact svi k x (by simp [AllP]; exact l)

theorem sameLoop (x y : Int) (hl : items.length ≤ 1000000000) : ∀ (m i : Nat), items.length - i = m → i ≤ items.length →
    LoopC Tryd.prog noG 77 (loopAt Tryd.f22 0) [(2, .ptr 0 0), (3, .ptr 1 0), (45, .lit (.int .i64 items.length)), (46, .lit (.int .i64 i))] [.cells 29 6 (arrC x (roK k items)), .cells 29 6 (arrC y (roK k items))] (.exit 0) [(2, .ptr 0 0), (3, .ptr 1 0)] [.cells 29 6 (arrC x (roK k items)), .cells 29 6 (arrC y (roK k items))]
  | 0, i, hk, hi => by
    obtain rfl : i = items.length := by omega
    exact LoopC.exit (svx k x y items items.length (by simp [AllP])) (by simp)
  | m + 1, i, hk, hi => by
    have hlt : i < items.length := by omega
    have a := sameIt k (items.getD i (0, .empty))
    have e := svl k x y items i
    simp only [ix i (by omega), Int.toNat_natCast] at e
    refine LoopC.step (e ?_) (sameLoop x y hl m (i + 1) (by omega) (by omega))
    (simp only [AllP, leAll]; repeat' (first | with_reducible apply And.intro | exact trivial | with_reducible rfl | with_reducible exact Le.refl _ | with_reducible exact RowLe.refl _ | assumption | exact Le.refl _ | exact RowLe.refl _ | omega | (simp <;> omega)))

theorem sameArr (x y : Int) (hl : items.length ≤ 1000000000) : ACalls Tryd.prog noG 22 [arrA k x items, arrA k y items] [] (.lit (.bool true)) [] := by
  have l := (sameLoop k items x y hl _ 0 rfl (Nat.zero_le _)).code
  refine svm k x y items ?_
  simp [AllP]
  exact l

theorem wroteArr (x : Int) (d : List UInt8) (hl : items.length ≤ 1000000000) (h : ACalls Tryd.prog noG 21 [.bts d, .lit (.int .i64 8)] [] (.tup [arrA k x items, .bts [], .lit (.bool true)]) []) : ACalls Tryd.prog noG 8 [.bts d, .lit (.bool true), arrA k 0 items] [] (.lit (.bool true)) [] := by
  have r := sameArr k items 0 x hl
  exact k8r k x d items (by (simp only [AllP, leAll]; repeat' (first | with_reducible apply And.intro | exact trivial | with_reducible rfl | with_reducible exact Le.refl _ | with_reducible exact RowLe.refl _ | assumption | exact Le.refl _ | exact RowLe.refl _ | omega | (simp <;> omega))))
end

/-! ### Floats -/
theorem takeF (x : It) (r : List UInt8) (h0 : 0 ≤ x.1) (h1 : x.1 < 4294967296) (h2 : x.2 = .empty) : ACalls Tryd.prog noG 34 [.agg [.lit (.slice none 0 0), .lit (.int .i64 (114 : UInt8).toNat)], .bts (b4 x.1 ++ r), .lit (.int .i64 7)] [] (.tup [.agg (itC 10 x), .bts r, .lit (.bool true)]) [] := by
  obtain ⟨v, s⟩ := x
  simp only at h0 h1 h2
  subst h2
  have b := bigN (b4 v) r 4 v rfl (by omega) (bigB4 v h0 h1)
  have k : ACalls Tryd.prog noG 48 [.lit (.int .i64 114)] [] (.tup [.lit (.int .i64 10), .lit (.int .i64 4), .lit (.bool true)]) [] := k48_114 (by simp [AllP])
  exact e34_114 (b4 v ++ r) r v (by (simp only [AllP, leAll]; repeat' (first | with_reducible apply And.intro | exact trivial | with_reducible rfl | with_reducible exact Le.refl _ | with_reducible exact RowLe.refl _ | assumption | exact Le.refl _ | exact RowLe.refl _ | omega | (simp <;> omega))))

def fItems (l : List Int) : List It := l.map fun v => (v, .empty)
theorem fItems_eb (l : List Int) : eb (fun x => b4 x.1) (fItems l) = fb l := by simp [eb, fItems, fb, List.flatMap_map]

theorem wroteF (l : List Int) (hl : l.length ≤ 1000) (hv : ∀ x ∈ l, 0 ≤ x ∧ x < 4294967296) : ACalls Tryd.prog noG 8 [.bts (encArr l), .lit (.bool true), arrA 10 0 (fItems l)] [] (.lit (.bool true)) [] := by
  have hlen : (fItems l).length = l.length := by simp [fItems]
  have hz : (eb (fun x => b4 x.1) (fItems l)).length = l.length * 4 := by rw [fItems_eb, fb_len]
  obtain ⟨x, hx⟩ := takeArr 10 114 (fItems l) (fun x => b4 x.1) 10 4 (by omega) (by omega) (by decide) (k48_114 (by simp [AllP])) (fun x hx r => by
    simp only [fItems, List.mem_map] at hx
    obtain ⟨v, hm, rfl⟩ := hx
    exact takeF (v, .empty) r (hv v hm).1 (hv v hm).2 rfl) (by omega)
  rw [hz, hlen, fItems_eb] at hx
  have he : encH ((l.length * 4 : Nat) : Int) l.length 114 ++ fb l = encArr l := by rw [encArr]; congr 1
  rw [he] at hx
  exact wroteArr 10 (fItems l) x (encArr l) (by omega) hx

/-! ### The law -/
def cL (v : Int) : List AV := itC 10 (v, .empty)
theorem cL_cells : LCells cL 6 := ⟨fun x => rfl, fun f x => rfl, fun x => rfl⟩

theorem wantLoop (l : List Int) (hl : l.length ≤ 2147483647) (h0 : 0 < l.length) (hv : ∀ x ∈ l, 0 ≤ x ∧ x < 4294967296) :
    CodeC Tryd.prog noG 57 (.loop (loopAt Tryd.f5 0)) [(0, roU l), (5, .lit (.bool true)), (6, .ptr 0 0), (26, roU l), (27, .lit (.int .i64 l.length)), (28, .lit (.int .i64 (0 : Nat)))] [.cells 29 6 (arrC 0 (.lit (.slice none 0 0)))] (.exit 0) [(0, roU l), (5, .lit (.bool true)), (6, .ptr 0 0)] [.cells 29 6 (arrC 0 (.own 1 0 l.length none)), .cells 29 6 (flatC cL l)] := by
  have K := cL_cells
  have hren : ∀ f i, Row.ren f (.cells 29 6 (flatC cL (l.take i))) = .cells 29 6 (flatC cL (l.take i)) := fun f i => by simp only [Row.ren, K.flatC_ren]
  have wv : ∀ i (h : i < l.length), IntKind.u64.wrap l[i] = l[i] := fun i h => by have := hv l[i] (List.getElem_mem _); rw [wrapU64]; omega
  have key := growNil (P := Tryd.prog) (G := noG) (k := 1) (n := 57) (c := loopAt Tryd.f5 0) (N := l.length) (ex := .exit 0)
    (fun i _ => [(0, roU l), (5, .lit (.bool true)), (6, .ptr 0 0), (26, roU l), (27, .lit (.int .i64 l.length)), (28, .lit (.int .i64 i))])
    (fun _ => [(0, roU l), (5, .lit (.bool true)), (6, .ptr 0 0)])
    (fun w => [.cells 29 6 (arrC 0 w)])
    (fun i => .cells 29 6 (flatC cL (l.take i))) (fun i => i) (by simp) [some 0, some 2] (.lit (.slice none 0 0)) h0
    (by
      have e := afn l 0
      simp only [ix 0 (by omega), getI l 0 h0, Int.toNat_natCast, wv 0 h0] at e
      refine (e ?_).cast rfl rfl rfl ?_
      · (simp only [AllP, leAll]; repeat' (first | with_reducible apply And.intro | exact trivial | with_reducible rfl | with_reducible exact Le.refl _ | with_reducible exact RowLe.refl _ | assumption | exact Le.refl _ | exact RowLe.refl _ | omega | (simp <;> omega)))
      · show _ = [_, Row.cells 29 6 (flatC cL (l.take (0 + 1)))]
        rw [flatC_snoc l 0 h0]; rfl)
    (fun i hi0 hi => by
      have e := afo l i i (flatC cL (l.take i))
      have t := K.flatC_take l i (by omega)
      have r := flatC_snoc (C := cL) l i hi
      have q : ∀ f, AV.renL f (flatC cL (l.take i) ++ [AV.lit (.int .i64 10), .lit (.int .u64 l[i]), .lit (.string (ByteArray.mk #[])), .lit (.slice none 0 0), .lit (.int .i64 0), .lit (.slice none 0 0)]) = flatC cL (l.take (i + 1)) := fun f => by rw [r, renL_app', K.flatC_ren]; rfl
      simp only [ix i (by omega), getI l i hi, Int.toNat_natCast, List.drop_zero, t, wv i hi, q] at e
      exact e (by (simp only [AllP, leAll]; repeat' (first | with_reducible apply And.intro | exact trivial | with_reducible rfl | with_reducible exact Le.refl _ | with_reducible exact RowLe.refl _ | assumption | exact Le.refl _ | exact RowLe.refl _ | omega | (simp <;> omega)))))
    (by
      have e := afxo l l.length l.length (flatC cL (l.take l.length)) (by simp [AllP])
      rw [K.flatC_ren] at e
      exact e)
    (fun i hi => rfl) (fun i hi => rfl)
    (fun i hi => congrArg (fun x => [Row.cells 29 6 (arrC 0 (.own 1 0 (i + 1) none)), x]) (hren _ (i + 1)))
    [some 0, some 1] rfl rfl rfl rfl
    (fun i => congrArg (fun x => [Row.cells 29 6 (arrC 0 (.own 1 0 i none)), x]) (hren _ i)) rfl
  simp only [List.take_length] at key
  exact key

theorem wroteOwn (d : List UInt8) (l : List Int) (cap : Option Nat) (h : ACalls Tryd.prog noG 8 [.bts d, .lit (.bool true), arrA 10 0 (fItems l)] [] (.lit (.bool true)) []) :
    ACalls Tryd.prog noG 8 [.bts d, .lit (.bool true), .agg (arrC 0 (.own 0 0 l.length cap))] [.cells 29 6 (flatC cL l)] (.lit (.bool true)) [.gone] := by
  refine ACalls.freezeArg 0 (r := .cells 29 6 (flatC cL l)) rfl (cL_cells.flatC_closed l) ?_
  have hlen : (fItems l).length = l.length := by simp [fItems]
  refine ((h.le (args' := [.bts d, .lit (.bool true), .agg (arrC 0 (.ro 6 l.length (fun i => ((flatC cL l).drop (0 + i * 6)).take 6)))]) ?_ (Le.refl _) rfl).frame [.gone] ?_ rfl).cast rfl rfl rfl rfl
  · refine ⟨Le.refl _, Le.refl _, Le_agg ⟨Le.refl _, Le.refl _, Le.refl _, ?_, Le.refl _, Le.refl _, trivial⟩, trivial⟩
    rw [roK, hlen]
    exact cL_cells.le_ro l (fun i hi => by simp [fItems, hi, cL])
  · exact ⟨Le.refl _, Le.refl _, Le.refl _, trivial⟩

theorem fnWriteArrayFloat (l : List Int) (hv : ∀ x ∈ l, 0 ≤ x ∧ x < 4294967296) : ACalls Tryd.prog noG 5 [roU l] [] (.lit (.bool true)) [] := by
  by_cases h1 : (2147483647 : Int) < l.length
  · exact af5a l (by simp [AllP, h1])
  · have d0 : Decidable.decide ((l.length : Int) > 2147483647) = false := by simp; omega
    have a5 : ∀ x ∈ ([5] : List Int), 0 ≤ x ∧ x < 4294967296 := by simp
    have e5 : encArr [5] = [224, 6, 1, 114, 0, 0, 0, 5] := by decide
    have aw : ACalls Tryd.prog noG 12 [.own 0 0 1 (some 1)] [.cells 35 1 [.lit (.int .u32 5)]] (.tup [.bts [224, 6, 1, 114, 0, 0, 0, 5], .lit (.bool true)]) [.gone] := by
      refine ACalls.freezeArg 0 (r := .cells 35 1 [.lit (.int .u32 5)]) rfl rfl ?_
      have h := writeArr [5] (by simp) a5
      rw [e5] at h
      refine ((h.le (args' := [.ro 1 1 (fun i => (([AV.lit (.int .u32 5)]).drop (0 + i * 1)).take 1)]) ?_ (Le.refl _) rfl).frame [.gone] ?_ rfl).cast rfl rfl rfl rfl
      · exact ⟨Le_ro fun i hi => by have : i = 0 := by omega
                                    subst this; rfl, trivial⟩
      · exact ⟨Le.refl _, trivial⟩
    have aw2 : ACalls Tryd.prog noG 8 [.bts [224, 6, 1, 114, 0, 0, 0, 5], .lit (.bool true), .agg (arrC 0 (.own 0 0 1 (some 1)))] [.cells 29 6 (itC 10 (5, .empty))] (.lit (.bool true)) [.gone] := by
      have h := wroteF [5] (by simp) a5
      rw [e5] at h
      exact wroteOwn _ [5] (some 1) h
    rcases Nat.eq_zero_or_pos l.length with h3 | h3
    · obtain rfl := List.eq_nil_of_length_eq_zero h3
      have w := writeArr [] (by simp) hv
      have r := wroteF [] (by simp) hv
      have r2 : ACalls Tryd.prog noG 8 [.bts (encArr []), .lit (.bool true), .agg (arrC 0 (.lit (.slice none 0 0)))] [] (.lit (.bool true)) [] :=
        r.le (args' := _) ⟨Le.refl _, Le.refl _, Le_agg ⟨Le.refl _, Le.refl _, Le.refl _, Le_nil_ro, Le.refl _, Le.refl _, trivial⟩, trivial⟩ (Le.refl _) rfl
      have lp : CodeC Tryd.prog noG 57 (.loop (loopAt Tryd.f5 0)) _ _ _ _ _ := (LoopC.exit (afxn [] 0 (by simp [AllP])) (by simp)).code
      exact af5c [] (encArr []) (by (simp only [AllP, leAll]; repeat' (first | with_reducible apply And.intro | exact trivial | with_reducible rfl | with_reducible exact Le.refl _ | with_reducible exact RowLe.refl _ | assumption | exact Le.refl _ | exact RowLe.refl _ | omega | (simp <;> omega))))
    · have lp := wantLoop l (by omega) h3 hv
      by_cases h2 : l.length ≤ 300
      · have w := writeArr l (by omega) hv
        have r := wroteOwn _ l none (wroteF l (by omega) hv)
        have d1 : Decidable.decide ((l.length : Int) > 300) = false := by simp; omega
        refine af5d l (encArr l) l.length (flatC cL l) ?_
        simp only [cL_cells.flatC_ren]
        (simp only [AllP, leAll]; repeat' (first | with_reducible apply And.intro | exact trivial | with_reducible rfl | with_reducible exact Le.refl _ | with_reducible exact RowLe.refl _ | assumption | exact Le.refl _ | exact RowLe.refl _ | omega | (simp <;> omega)))
      · have d1 : Decidable.decide ((l.length : Int) > 300) = true := by simp; omega
        exact af5b l l.length (flatC cL l) (by (simp only [AllP, leAll]; repeat' (first | with_reducible apply And.intro | exact trivial | with_reducible rfl | with_reducible exact Le.refl _ | with_reducible exact RowLe.refl _ | assumption | exact Le.refl _ | exact RowLe.refl _ | omega | (simp <;> omega))))
end Go.Ax
