/-
  laws.FnWriteArraySymbol: read back; the law.
-/
import Derived.Test.YtemlccbnicdfgaaDoorUsE
set_option linter.unusedVariables false
set_option linter.unusedSimpArgs false
set_option maxRecDepth 100000
namespace Go.Ax
open Go.Proofs

theorem mk_sby (s : ByteArray) (r : List UInt8) : ByteArray.mk (List.take s.size (sby s ++ r)).toArray = s := by
  have : List.take s.size (sby s ++ r) = sby s := by rw [← sby_len s, List.take_left]
  rw [this]
  cases s; simp [sby]
theorem drop_sby (s : ByteArray) (r : List UInt8) : List.drop s.size (sby s ++ r) = r := by rw [← sby_len s, List.drop_left]

theorem takeSym1 (x : It) (r : List UInt8) (h0 : x.1 = 0) (h1 : x.2.size ≤ 255) (h2 : Asc x.2) (hr : r.length ≤ 100000000) : ACalls Tryd.prog noG 22 [.agg [.lit (.slice none 0 0), .lit (.int .i64 (163 : UInt8).toNat)], .bts (enc1 x.2 ++ r), .lit (.int .i64 7)] [] (.tup [.agg (itC 20 x), .bts r, .lit (.bool true)]) [] := by
  obtain ⟨v, s⟩ := x
  simp only at h0 h1 h2
  subst h0
  have b := bigN [byteI s.size] (sby s ++ r) 1 s.size rfl (by omega) (bigB s.size (by omega) (by omega))
  have k : ACalls Tryd.prog noG 27 [.lit (.int .i64 163)] [] (.tup [.lit (.int .i64 20), .lit (.int .i64 1), .lit (.bool true)]) [] := k48_163 (by simp [AllP])
  have ao := asciiOnlyT s (by omega) h2
  have dd : decide ((s.size : Int) > ((sby s ++ r).length : Int)) = false := by rw [decide_eq_false_iff_not, List.length_append, sby_len]; omega
  have hl : (sby s ++ r).length = s.size + r.length := by rw [List.length_append, sby_len]
  have w : IntKind.u64.wrap ((sby s ++ r).length : Int) = (sby s ++ r).length := by rw [wrapU64]; omega
  have q := e34_163 ([byteI s.size] ++ (sby s ++ r)) (sby s ++ r) s.size s
  simp only [Int.toNat_natCast, Int.toNat_zero, List.drop_zero, mk_sby, w, List.take_length, drop_sby] at q
  have he : enc1 s ++ r = [byteI s.size] ++ (sby s ++ r) := by rw [enc1, List.append_assoc]
  show ACalls Tryd.prog noG 22 [_, .bts (enc1 s ++ r), _] _ _ _
  rw [he]
  exact q (by (simp only [AllP, leAll]; repeat' (first | with_reducible apply And.intro | exact trivial | with_reducible rfl | with_reducible exact Le.refl _ | with_reducible exact RowLe.refl _ | assumption | exact Le.refl _ | exact RowLe.refl _ | omega | (simp <;> omega))))

theorem takeSym4 (x : It) (r : List UInt8) (h0 : x.1 = 0) (h1 : x.2.size ≤ 4096) (h2 : Asc x.2) (hr : r.length ≤ 100000000) : ACalls Tryd.prog noG 22 [.agg [.lit (.slice none 0 0), .lit (.int .i64 (179 : UInt8).toNat)], .bts (enc4 x.2 ++ r), .lit (.int .i64 7)] [] (.tup [.agg (itC 20 x), .bts r, .lit (.bool true)]) [] := by
  obtain ⟨v, s⟩ := x
  simp only at h0 h1 h2
  subst h0
  have b := bigN (b4 s.size) (sby s ++ r) 4 s.size rfl (by omega) (bigB4 s.size (by omega) (by omega))
  have k : ACalls Tryd.prog noG 27 [.lit (.int .i64 179)] [] (.tup [.lit (.int .i64 20), .lit (.int .i64 4), .lit (.bool true)]) [] := k48_179 (by simp [AllP])
  have ao := asciiOnlyT s (by omega) h2
  have dd : decide ((s.size : Int) > ((sby s ++ r).length : Int)) = false := by rw [decide_eq_false_iff_not, List.length_append, sby_len]; omega
  have hl : (sby s ++ r).length = s.size + r.length := by rw [List.length_append, sby_len]
  have w : IntKind.u64.wrap ((sby s ++ r).length : Int) = (sby s ++ r).length := by rw [wrapU64]; omega
  have q := e34_179 (b4 s.size ++ (sby s ++ r)) (sby s ++ r) s.size s
  simp only [Int.toNat_natCast, Int.toNat_zero, List.drop_zero, mk_sby, w, List.take_length, drop_sby] at q
  have he : enc4 s ++ r = b4 s.size ++ (sby s ++ r) := by rw [enc4, List.append_assoc]
  show ACalls Tryd.prog noG 22 [_, .bts (enc4 s ++ r), _] _ _ _
  rw [he]
  exact q (by (simp only [AllP, leAll]; repeat' (first | with_reducible apply And.intro | exact trivial | with_reducible rfl | with_reducible exact Le.refl _ | with_reducible exact RowLe.refl _ | assumption | exact Le.refl _ | exact RowLe.refl _ | omega | (simp <;> omega))))

def sItems (l : List ByteArray) : List It := l.map fun s => (0, s)
theorem sItems_eb (e : ByteArray → List UInt8) (l : List ByteArray) : eb (fun x => e x.2) (sItems l) = gs e l := by simp [eb, sItems, gs, List.flatMap_map]
theorem sItems_len (l : List ByteArray) : (sItems l).length = l.length := by simp [sItems]
def GoodS (s : ByteArray) : Prop := Asc s ∧ s.size ≤ 4096

theorem wroteS (l : List ByteArray) (hl : l.length ≤ 1000) (hv : ∀ s ∈ l, GoodS s) : ACalls Tryd.prog noG 6 [.bts (encArr l), .lit (.bool true), arrA 20 0 (sItems l)] [] (.lit (.bool true)) [] := by
  have hlen := sItems_len l
  have hv' : ∀ s ∈ l, s.size ≤ 4096 := fun s hs => (hv s hs).2
  by_cases h : Sml l
  · have hz : (eb (fun x => enc1 x.2) (sItems l)).length = tot l + l.length * 1 := by rw [sItems_eb, gs_len enc1 1 enc1_len]
    have hb := gs_small enc1 1 (by omega) enc1_len l hl hv' l.length
    rw [List.take_length, gs_len enc1 1 enc1_len] at hb
    obtain ⟨x, hx⟩ := takeArr 20 163 (sItems l) (fun x => enc1 x.2) 20 1 (by omega) (by omega) (by decide) (k48_163 (by simp [AllP])) (fun x hx r hr => by
      simp only [sItems, List.mem_map] at hx
      obtain ⟨s, hm, rfl⟩ := hx
      exact takeSym1 (0, s) r rfl (h s hm) (hv s hm).1 hr) (by omega)
    rw [hz, hlen, sItems_eb] at hx
    have he : encH ((tot l + l.length * 1 : Nat) : Int) l.length 163 ++ gs enc1 l = encArr l := by rw [encArr_s l h]; congr 2 <;> omega
    rw [he] at hx
    exact wroteArr 20 (sItems l) x (encArr l) (by omega) hx
  · have hz : (eb (fun x => enc4 x.2) (sItems l)).length = tot l + l.length * 4 := by rw [sItems_eb, gs_len enc4 4 enc4_len]
    have hb := gs_small enc4 4 (by omega) enc4_len l hl hv' l.length
    rw [List.take_length, gs_len enc4 4 enc4_len] at hb
    obtain ⟨x, hx⟩ := takeArr 20 179 (sItems l) (fun x => enc4 x.2) 20 4 (by omega) (by omega) (by decide) (k48_179 (by simp [AllP])) (fun x hx r hr => by
      simp only [sItems, List.mem_map] at hx
      obtain ⟨s, hm, rfl⟩ := hx
      exact takeSym4 (0, s) r rfl (hv s hm).2 (hv s hm).1 hr) (by omega)
    rw [hz, hlen, sItems_eb] at hx
    have he : encH ((tot l + l.length * 4 : Nat) : Int) l.length 179 ++ gs enc4 l = encArr l := by rw [encArr_l l h]; congr 2 <;> omega
    rw [he] at hx
    exact wroteArr 20 (sItems l) x (encArr l) (by omega) hx

/-! ### The law -/
def cL (s : ByteArray) : List AV := itC 20 (0, s)
theorem cL_cells : LCells cL 6 := ⟨fun x => rfl, fun f x => rfl, fun x => rfl⟩
def slL (l : List ByteArray) (i : Nat) : List (Nat × AV) := [(0, roS l), (5, .lit (.bool true)), (6, .ptr 0 0), (26, roS l), (27, .lit (.int .i64 l.length)), (28, .lit (.int .i64 i))]
def rwL (w : AV) : List Row := [.cells 30 6 (arrC 0 w)]

theorem wantFirst (l : List ByteArray) (h0 : 0 < l.length) (hg : GoodS l[0]) : CodeC Tryd.prog noG 65 (loopAt Tryd.f4 0) (slL l 0) (rwL (.lit (.slice none 0 0))) .normal (slL l 1) (rwL (.own 1 0 1 none) ++ [.cells 30 6 (flatC cL (l.take 1))]) := by
  have a := asciiT l[0] (by have := hg.2; omega) hg.1
  have hz := hg.2
  have e := afn l 0
  simp only [ix 0 (by omega), getS l 0 h0, Int.toNat_natCast] at e
  refine (e ?_).cast rfl rfl rfl ?_
  · (simp only [AllP, leAll]; repeat' (first | with_reducible apply And.intro | exact trivial | with_reducible rfl | with_reducible exact Le.refl _ | with_reducible exact RowLe.refl _ | assumption | exact Le.refl _ | exact RowLe.refl _ | omega | (simp <;> omega)))
  · show _ = [_, Row.cells 30 6 (flatC cL (l.take (0 + 1)))]
    rw [flatC_snoc l 0 h0]; rfl

theorem wantStep (l : List ByteArray) (hl : l.length ≤ 2147483647) (i : Nat) (hi : i < l.length) (hg : GoodS l[i]) : CodeC Tryd.prog noG 65 (loopAt Tryd.f4 0) (slL l i) (rwL (.own 1 0 i none) ++ [.cells 30 6 (flatC cL (l.take i))]) .normal (slL l (i + 1)) (rwL (.own 2 0 (i + 1) none) ++ [.gone, .cells 30 6 (flatC cL (l.take (i + 1)))]) := by
  have K := cL_cells
  have a := asciiT l[i] (by have := hg.2; omega) hg.1
  have hz := hg.2
  have e := afo l i i (flatC cL (l.take i))
  have t := K.flatC_take l i (by omega)
  have r := flatC_snoc (C := cL) l i hi
  have q : ∀ f, AV.renL f (flatC cL (l.take i) ++ [AV.lit (.int .i64 20), .lit (.int .u64 0), .lit (.string l[i]), .lit (.slice none 0 0), .lit (.int .i64 0), .lit (.slice none 0 0)]) = flatC cL (l.take (i + 1)) := fun f => by rw [r, renL_app', K.flatC_ren]; rfl
  simp only [ix i (by omega), getS l i hi, Int.toNat_natCast, List.drop_zero, t, q] at e
  exact e (by (simp only [AllP, leAll]; repeat' (first | with_reducible apply And.intro | exact trivial | with_reducible rfl | with_reducible exact Le.refl _ | with_reducible exact RowLe.refl _ | assumption | exact Le.refl _ | exact RowLe.refl _ | omega | (simp <;> omega))))

theorem hrenL (l : List ByteArray) : ∀ f i, Row.ren f (.cells 30 6 (flatC cL (l.take i))) = .cells 30 6 (flatC cL (l.take i)) := fun f i => by simp only [Row.ren, cL_cells.flatC_ren]

theorem wantLoop (l : List ByteArray) (hl : l.length ≤ 2147483647) (h0 : 0 < l.length) (hv : ∀ s ∈ l, GoodS s) :
    CodeC Tryd.prog noG 65 (.loop (loopAt Tryd.f4 0)) (slL l 0) (rwL (.lit (.slice none 0 0))) (.exit 0) [(0, roS l), (5, .lit (.bool true)), (6, .ptr 0 0)] [.cells 30 6 (arrC 0 (.own 1 0 l.length none)), .cells 30 6 (flatC cL l)] := by
  have key := growNil (P := Tryd.prog) (G := noG) (k := 1) (n := 65) (c := loopAt Tryd.f4 0) (N := l.length) (ex := .exit 0)
    (fun i _ => slL l i) (fun _ => [(0, roS l), (5, .lit (.bool true)), (6, .ptr 0 0)]) rwL
    (fun i => .cells 30 6 (flatC cL (l.take i))) (fun i => i) (by simp) [some 0, some 2] (.lit (.slice none 0 0)) h0
    (wantFirst l h0 (hv _ (List.getElem_mem _))) (fun i hi0 hi => wantStep l hl i hi (hv _ (List.getElem_mem _)))
    (by
      have e := afxo l l.length l.length (flatC cL (l.take l.length)) (by simp [AllP])
      rw [cL_cells.flatC_ren] at e
      exact e)
    (fun i hi => rfl) (fun i hi => rfl)
    (fun i hi => congrArg (fun x => [Row.cells 30 6 (arrC 0 (.own 1 0 (i + 1) none)), x]) (hrenL l _ (i + 1)))
    [some 0, some 1] rfl rfl rfl rfl
    (fun i => congrArg (fun x => [Row.cells 30 6 (arrC 0 (.own 1 0 i none)), x]) (hrenL l _ i)) rfl
  simp only [List.take_length] at key
  exact key

/-- A text that is not as asked: the law returns there. -/
theorem badLoop (l : List ByteArray) (hl : l.length ≤ 2147483647) (hf : ∀ s ∈ l, s.size ≤ 2147483647) : ∀ (m i : Nat), l.length - i = m → 0 < i → i ≤ l.length → (∃ s ∈ l.drop i, ¬ GoodS s) →
    ∃ H', LoopK Tryd.prog noG 0 65 (loopAt Tryd.f4 0) (slL l i) (rwL (.own 1 0 i none) ++ [.cells 30 6 (flatC cL (l.take i))]) .ret [(2, .lit (.bool true))] H'
  | 0, i, hk, h0, hi, hx => by
    obtain ⟨x, hm, -⟩ := hx
    rw [List.drop_eq_nil_of_le (by omega)] at hm
    cases hm
  | m + 1, i, hk, h0, hi, hx => by
    have hlt : i < l.length := by omega
    have hs := hf l[i] (List.getElem_mem _)
    by_cases hg : GoodS l[i]
    · obtain ⟨H', ih⟩ := badLoop l hl hf m (i + 1) (by omega) (by omega) (by omega) (by
        obtain ⟨x, hm, h2⟩ := hx
        rw [List.drop_eq_getElem_cons hlt] at hm
        rcases List.mem_cons.1 hm with rfl | hm
        · exact absurd hg h2
        · exact ⟨x, hm, h2⟩)
      refine ⟨H', LoopK.step [some 0, some 2] (wantStep l hl i hlt hg) rfl ?_⟩
      have hR : outM (idxM [some 0, some 2] 0) (hL (rwL (.own 2 0 (i + 1) none) ++ [.gone, .cells 30 6 (flatC cL (l.take (i + 1)))])) [some 0, some 2] = rwL (.own 1 0 (i + 1) none) ++ [.cells 30 6 (flatC cL (l.take (i + 1)))] := congrArg (fun x => [Row.cells 30 6 (arrC 0 (.own 1 0 (i + 1) none)), x]) (hrenL l _ (i + 1))
      rw [hR]
      exact ih
    · by_cases ha : Asc l[i]
      · have hz : 4096 < l[i].size := by
          refine Nat.lt_of_not_le fun h => hg ⟨ha, h⟩
        have a := asciiT l[i] (by omega) ha
        have e := axo l i i (flatC cL (l.take i))
        simp only [Int.toNat_natCast, getS l i hlt] at e
        exact ⟨_, LoopK.exit (e (by (simp only [AllP, leAll]; repeat' (first | with_reducible apply And.intro | exact trivial | with_reducible rfl | with_reducible exact Le.refl _ | with_reducible exact RowLe.refl _ | assumption | exact Le.refl _ | exact RowLe.refl _ | omega | (simp <;> omega))))) (by simp)⟩
      · have a := asciiF l[i] (by omega) ha
        have e := aro l i i (flatC cL (l.take i))
        simp only [Int.toNat_natCast, getS l i hlt] at e
        exact ⟨_, LoopK.exit (e (by (simp only [AllP, leAll]; repeat' (first | with_reducible apply And.intro | exact trivial | with_reducible rfl | with_reducible exact Le.refl _ | with_reducible exact RowLe.refl _ | assumption | exact Le.refl _ | exact RowLe.refl _ | omega | (simp <;> omega))))) (by simp)⟩

theorem badC (l : List ByteArray) (hl : l.length ≤ 2147483647) (hf : ∀ s ∈ l, s.size ≤ 2147483647) (hx : ∃ s ∈ l, ¬ GoodS s) :
    CodeC Tryd.prog noG 65 (.loop (loopAt Tryd.f4 0)) (slL l 0) (rwL (.lit (.slice none 0 0))) .ret [(2, .lit (.bool true))] [.gone] := by
  have h0 : 0 < l.length := by
    obtain ⟨s, hs, -⟩ := hx
    exact List.length_pos_of_mem hs
  have key : ∃ H', LoopK Tryd.prog noG 0 65 (loopAt Tryd.f4 0) (slL l 0) (rwL (.lit (.slice none 0 0))) .ret [(2, .lit (.bool true))] H' := by
    have hs := hf l[0] (List.getElem_mem _)
    by_cases hg : GoodS l[0]
    · obtain ⟨H', ih⟩ := badLoop l hl hf (l.length - 1) 1 rfl (by omega) (by omega) (by
        obtain ⟨x, hm, h2⟩ := hx
        rw [← List.drop_zero (l := l), List.drop_eq_getElem_cons h0] at hm
        rcases List.mem_cons.1 hm with rfl | hm
        · exact absurd hg h2
        · exact ⟨x, hm, h2⟩)
      refine ⟨H', LoopK.step [some 0, some 1] (wantFirst l h0 hg) rfl ?_⟩
      have hR : outM (idxM [some 0, some 1] 0) (hL (rwL (.own 1 0 1 none) ++ [.cells 30 6 (flatC cL (l.take 1))])) [some 0, some 1] = rwL (.own 1 0 1 none) ++ [.cells 30 6 (flatC cL (l.take 1))] := congrArg (fun x => [Row.cells 30 6 (arrC 0 (.own 1 0 1 none)), x]) (hrenL l _ 1)
      rw [hR]
      exact ih
    · by_cases ha : Asc l[0]
      · have hz : 4096 < l[0].size := by
          refine Nat.lt_of_not_le fun h => hg ⟨ha, h⟩
        have a := asciiT l[0] (by omega) ha
        have e := axn l 0
        simp only [Int.toNat_natCast, getS l 0 h0] at e
        exact ⟨_, LoopK.exit (e (by (simp only [AllP, leAll]; repeat' (first | with_reducible apply And.intro | exact trivial | with_reducible rfl | with_reducible exact Le.refl _ | with_reducible exact RowLe.refl _ | assumption | exact Le.refl _ | exact RowLe.refl _ | omega | (simp <;> omega))))) (by simp)⟩
      · have a := asciiF l[0] (by omega) ha
        have e := arn l 0
        simp only [Int.toNat_natCast, getS l 0 h0] at e
        exact ⟨_, LoopK.exit (e (by (simp only [AllP, leAll]; repeat' (first | with_reducible apply And.intro | exact trivial | with_reducible rfl | with_reducible exact Le.refl _ | with_reducible exact RowLe.refl _ | assumption | exact Le.refl _ | exact RowLe.refl _ | omega | (simp <;> omega))))) (by simp)⟩
  obtain ⟨H', key⟩ := key
  exact LoopK.code [none] key rfl rfl

theorem wroteOwn (d : List UInt8) (l : List ByteArray) (cap : Option Nat) (h : ACalls Tryd.prog noG 6 [.bts d, .lit (.bool true), arrA 20 0 (sItems l)] [] (.lit (.bool true)) []) :
    ACalls Tryd.prog noG 6 [.bts d, .lit (.bool true), .agg (arrC 0 (.own 0 0 l.length cap))] [.cells 30 6 (flatC cL l)] (.lit (.bool true)) [.gone] := by
  refine ACalls.freezeArg 0 (r := .cells 30 6 (flatC cL l)) rfl (cL_cells.flatC_closed l) ?_
  have hlen := sItems_len l
  refine ((h.le (args' := [.bts d, .lit (.bool true), .agg (arrC 0 (.ro 6 l.length (fun i => ((flatC cL l).drop (0 + i * 6)).take 6)))]) ?_ (Le.refl _) rfl).frame [.gone] ?_ rfl).cast rfl rfl rfl rfl
  · refine ⟨Le.refl _, Le.refl _, Le_agg ⟨Le.refl _, Le.refl _, Le.refl _, ?_, Le.refl _, Le.refl _, trivial⟩, trivial⟩
    rw [roK, hlen]
    exact cL_cells.le_ro l (fun i hi => by simp [sItems, hi, cL])
  · exact ⟨Le.refl _, Le.refl _, Le.refl _, trivial⟩

theorem good_a : ∀ s ∈ [(⟨#[97]⟩ : ByteArray)], GoodS s := by
  intro s hs
  simp only [List.mem_singleton] at hs
  subst hs
  refine ⟨fun b hb => ?_, by decide⟩
  have : b = 97 := by simpa [sby] using hb
  subst this
  decide

theorem enc_a : encArr [⟨#[97]⟩] = [224, 4, 1, 163, 1, 97] := by
  rw [encArr_s _ (fun s hs => by simp only [List.mem_singleton] at hs; subst hs; decide)]
  decide

theorem fnWriteArraySymbol (l : List ByteArray) : ACalls Tryd.prog noG 4 [roS l] [] (.lit (.bool true)) [] := by
  by_cases hf : Fits l
  · have f := fitsT l hf
    have aw : ACalls Tryd.prog noG 8 [.own 0 0 1 (some 1)] [.cells 9 1 [.lit (.string ⟨#[97]⟩)]] (.tup [.bts [224, 4, 1, 163, 1, 97], .lit (.bool true)]) [.gone] := by
      refine ACalls.freezeArg 0 (r := .cells 9 1 [.lit (.string ⟨#[97]⟩)]) rfl rfl ?_
      have h := writeArr [⟨#[97]⟩] (by simp) (fun s hs => (good_a s hs).2)
      rw [enc_a] at h
      refine ((h.le (args' := [.ro 1 1 (fun i => (([AV.lit (.string ⟨#[97]⟩)]).drop (0 + i * 1)).take 1)]) ?_ (Le.refl _) rfl).frame [.gone] ?_ rfl).cast rfl rfl rfl rfl
      · exact ⟨Le_ro fun i hi => by have : i = 0 := by omega
                                    subst this; rfl, trivial⟩
      · exact ⟨Le.refl _, trivial⟩
    have aw2 : ACalls Tryd.prog noG 6 [.bts [224, 4, 1, 163, 1, 97], .lit (.bool true), .agg (arrC 0 (.own 0 0 1 (some 1)))] [.cells 30 6 (itC 20 (0, ⟨#[97]⟩))] (.lit (.bool true)) [.gone] := by
      have h := wroteS [⟨#[97]⟩] (by simp) good_a
      rw [enc_a] at h
      exact wroteOwn _ [⟨#[97]⟩] (some 1) h
    by_cases hg : ∀ s ∈ l, GoodS s
    · rcases Nat.eq_zero_or_pos l.length with h3 | h3
      · obtain rfl := List.eq_nil_of_length_eq_zero h3
        have w := writeArr [] (by simp) (fun s hs => by cases hs)
        have r := wroteS [] (by simp) (fun s hs => by cases hs)
        have r2 : ACalls Tryd.prog noG 6 [.bts (encArr []), .lit (.bool true), .agg (arrC 0 (.lit (.slice none 0 0)))] [] (.lit (.bool true)) [] :=
          r.le (args' := _) ⟨Le.refl _, Le.refl _, Le_agg ⟨Le.refl _, Le.refl _, Le.refl _, Le_nil_ro, Le.refl _, Le.refl _, trivial⟩, trivial⟩ (Le.refl _) rfl
        have lp : CodeC Tryd.prog noG 65 (.loop (loopAt Tryd.f4 0)) _ _ _ _ _ := (LoopC.exit (afxn [] 0 (by simp [AllP])) (by simp)).code
        exact af5c [] (encArr []) (by (simp only [AllP, leAll]; repeat' (first | with_reducible apply And.intro | exact trivial | with_reducible rfl | with_reducible exact Le.refl _ | with_reducible exact RowLe.refl _ | assumption | exact Le.refl _ | exact RowLe.refl _ | omega | (simp <;> omega))))
      · have lp := wantLoop l hf.1 h3 hg
        by_cases h2 : l.length ≤ 300
        · have w := writeArr l (by omega) (fun s hs => (hg s hs).2)
          have r := wroteOwn _ l none (wroteS l (by omega) hg)
          have d1 : Decidable.decide ((l.length : Int) > 300) = false := by simp; omega
          refine af5d l (encArr l) l.length (flatC cL l) ?_
          simp only [cL_cells.flatC_ren]
          (simp only [AllP, leAll]; repeat' (first | with_reducible apply And.intro | exact trivial | with_reducible rfl | with_reducible exact Le.refl _ | with_reducible exact RowLe.refl _ | assumption | exact Le.refl _ | exact RowLe.refl _ | omega | (simp <;> omega)))
        · have d1 : Decidable.decide ((l.length : Int) > 300) = true := by simp; omega
          exact af5b l l.length (flatC cL l) (by (simp only [AllP, leAll]; repeat' (first | with_reducible apply And.intro | exact trivial | with_reducible rfl | with_reducible exact Le.refl _ | with_reducible exact RowLe.refl _ | assumption | exact Le.refl _ | exact RowLe.refl _ | omega | (simp <;> omega))))
    · have hx : ∃ s ∈ l, ¬ GoodS s := by
        refine Classical.byContradiction fun hn => hg fun s hs => ?_
        refine Classical.byContradiction fun h2 => hn ⟨s, hs, h2⟩
      have lp := badC l hf.1 hf.2 hx
      exact af5r l (by (simp only [AllP, leAll]; repeat' (first | with_reducible apply And.intro | exact trivial | with_reducible rfl | with_reducible exact Le.refl _ | with_reducible exact RowLe.refl _ | assumption | exact Le.refl _ | exact RowLe.refl _ | omega | (simp <;> omega))))
  · have f := fitsF l hf
    exact af5a l (by (simp only [AllP, leAll]; repeat' (first | with_reducible apply And.intro | exact trivial | with_reducible rfl | with_reducible exact Le.refl _ | with_reducible exact RowLe.refl _ | assumption | exact Le.refl _ | exact RowLe.refl _ | omega | (simp <;> omega))))
end Go.Ax
