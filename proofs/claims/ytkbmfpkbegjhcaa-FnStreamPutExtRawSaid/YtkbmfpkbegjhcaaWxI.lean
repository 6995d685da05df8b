/-
  Extensions that are written by a Writer, one behind the other.
-/
import Derived.Test.YtkbmfpkbegjhcaaWxG
import Derived.Test.YtkbmfpkbegjhcaaWxH
set_option linter.unusedVariables false
set_option linter.unusedSimpArgs false
set_option maxRecDepth 100000
namespace Go.Ax
open Go.Proofs

def hdr (ln : Nat) (k : Int) : List UInt8 :=
  if ln = 0 then [199, 0, byteI k] else if ln = 1 then [212, byteI k] else if ln = 2 then [213, byteI k] else if ln = 4 then [214, byteI k] else if ln = 8 then [215, byteI k] else if ln = 16 then [216, byteI k]
  else if ln < 255 then [199, byteI (ln : Int), byteI k]
  else if ln < 65535 then [200, byteI ((IntKind.u16.wrap (ln : Int)).fdiv 256), byteI (IntKind.u16.wrap (ln : Int)), byteI k]
  else [201, byteI ((IntKind.u32.wrap (ln : Int)).fdiv 16777216), byteI ((IntKind.u32.wrap (ln : Int)).fdiv 65536), byteI ((IntKind.u32.wrap (ln : Int)).fdiv 256), byteI (IntKind.u32.wrap (ln : Int)), byteI k]
theorem hdr_len (ln : Nat) (k : Int) : (hdr ln k).length ≤ 6 := by
  unfold hdr
  repeat' (split <;> try simp)
theorem headW (ln : Nat) (k : Int) : Writes 30 [iL ln, .lit (.int .i8 k)] (hdr ln k) := by
  unfold hdr
  split
  · next h => subst h; exact head0 k
  split
  · next h => subst h; exact head1 k
  split
  · next h => subst h; exact head2 k
  split
  · next h => subst h; exact head4 k
  split
  · next h => subst h; exact head8 k
  split
  · next h => subst h; exact head16 k
  have hs : ln ≠ 0 ∧ ln ≠ 1 ∧ ln ≠ 2 ∧ ln ≠ 4 ∧ ln ≠ 8 ∧ ln ≠ 16 := by omega
  split
  · next h => exact heada ln hs h k
  split
  · next h1 h2 => exact headb ln hs (by omega) h2 k
  · next h1 h2 => exact headc ln hs (by omega) k

theorem writesRaw (k : Int) (tx : List UInt8) (ht : tx.length ≤ 100000) : Writes 19 [.lit (.int .i8 k), .bts tx] (hdr tx.length k ++ tx) := fun N n buf h18 hN hb hn => by
  have hw := headW tx.length k N n buf h18 hN hb hn
  have hl := hdr_len tx.length k
  have hbg : bigO = 100000000000 := rfl
  refine ⟨?_, fun out ho => ?_⟩
  · obtain ⟨o2, buf2, n2, a1, a2, a3, C⟩ := hw.1
    have hlen := congrArg List.length a3
    cases o2 with
    | none =>
      simp only [cont, Option.getD_none, List.nil_append] at a3
      obtain ⟨o3, buf3, n3, c1, c2, c3, L⟩ := payN tx.length tx rfl N n2 buf2 h18 hN a1 a2 (by omega)
      refine ⟨o3, buf3, n3, c1, c2, by rw [c3, a3, List.append_assoc], ?_⟩
      cases o3 with
      | none =>
        have lp := LoopK.code [some 0, some 1, some 2] L rfl rfl
        refine wenn N n n2 n3 buf buf2 buf3 tx k ?_
        simp only [AllP, leAll]
        repeat' (first | exact trivial | exact C | exact lp | exact Le.refl _ | exact RowLe.refl _ | with_reducible apply And.intro | exact rfl)
      | some out3 =>
        have lp := LoopK.code [some 0, some 1, some 2, some 3] L rfl rfl
        refine wenp N n n2 n3 buf buf2 buf3 out3 tx k ?_
        simp only [AllP, leAll]
        repeat' (first | exact trivial | exact C | exact lp | exact Le.refl _ | exact RowLe.refl _ | with_reducible apply And.intro | exact rfl)
    | some out1 =>
      simp only [cont, Option.getD_some] at a3 hlen
      simp only [List.length_append, List.length_take] at hlen
      obtain ⟨out3, buf3, n3, c1, c2, c3, L⟩ := payO tx.length tx rfl N n2 buf2 out1 h18 hN a1 a2 (by omega)
      refine ⟨some out3, buf3, n3, c1, c2, by simp only [cont, Option.getD_some]; rw [c3, a3, List.append_assoc], ?_⟩
      have lp := LoopK.code [some 0, some 1, some 2, none, some 3] L rfl rfl
      have e := weno N n n2 n3 buf buf2 out1 buf3 out3 tx k (by
        simp only [AllP, leAll]
        repeat' (first | exact trivial | exact C | exact lp | exact Le.refl _ | exact RowLe.refl _ | with_reducible apply And.intro | exact rfl))
      exact e
  · simp only [List.length_append] at ho
    obtain ⟨out2, buf2, n2, a1, a2, a3, C⟩ := hw.2 out (by omega)
    have hlen := congrArg List.length a3
    simp only [List.length_append, List.length_take] at hlen
    obtain ⟨out3, buf3, n3, c1, c2, c3, L⟩ := payO tx.length tx rfl N n2 buf2 out2 h18 hN a1 a2 (by omega)
    refine ⟨out3, buf3, n3, c1, c2, by rw [c3, a3]; simp, ?_⟩
    have lp := LoopK.code [some 0, some 1, some 2, none, some 3] L rfl rfl
    refine weoo N n n2 n3 buf out buf2 out2 buf3 out3 tx k ?_
    simp only [AllP, leAll]
    repeat' (first | exact trivial | exact C | exact lp | exact Le.refl _ | exact RowLe.refl _ | with_reducible apply And.intro | exact rfl)

def encX (p : PackT) : List UInt8 := hdr p.text.size (IntKind.i8.wrap p.ext) ++ p.text.data.toList
theorem ba_len (t : ByteArray) : t.data.toList.length = t.size := Array.length_toList
theorem encX_len (p : PackT) (h : p.text.size ≤ 65536) : (encX p).length ≤ 65542 := by
  have := hdr_len p.text.size (IntKind.i8.wrap p.ext)
  have := ba_len p.text
  simp only [encX, List.length_append]; omega
theorem cloExt (p : PackT) (ht : p.text.size ≤ 65536) : Writes 18 [.agg (pcells p)] (encX p) := fun N n buf h18 hN hb hn => by
  have tl := ba_len p.text
  have hw := writesRaw (IntKind.i8.wrap p.ext) p.text.data.toList (by omega) N n buf h18 hN hb hn
  rw [tl] at hw
  refine ⟨?_, fun out ho => ?_⟩
  · obtain ⟨o2, buf2, n2, a1, a2, a3, C⟩ := hw.1
    refine ⟨o2, buf2, n2, a1, a2, a3, ?_⟩
    cases o2 with
    | none =>
      refine xcnn N n n2 buf buf2 p ?_
      simp only [AllP, leAll]
      repeat' (first | exact trivial | exact C | omega | exact Le.refl _ | exact RowLe.refl _ | with_reducible apply And.intro | exact rfl)
    | some out1 =>
      refine xcno N n n2 buf buf2 out1 p ?_
      simp only [AllP, leAll]
      repeat' (first | exact trivial | exact C | omega | exact Le.refl _ | exact RowLe.refl _ | with_reducible apply And.intro | exact rfl)
  · obtain ⟨out2, buf2, n2, a1, a2, a3, C⟩ := hw.2 out ho
    refine ⟨out2, buf2, n2, a1, a2, a3, ?_⟩
    refine xcoo N n n2 buf out buf2 out2 p ?_
    simp only [AllP, leAll]
    repeat' (first | exact trivial | exact C | omega | exact Le.refl _ | exact RowLe.refl _ | with_reducible apply And.intro | exact rfl)

section
variable (n0 : Nat) (f : Nat → PackT)
def roX : AV := .ro 5 n0 (fun i => pcells (f i))
def slP (i : Nat) : List (Nat × AV) := [(2, .lit (.func (.func 18) #[] #[])), (9, .ptr 0 0), (8, .ptr 1 0), (17, roX n0 f), (18, iL n0), (19, iL i)]
theorem leF (i : Nat) : leAll [AV.ptr 0 0, .agg (pcells (f ((i : Nat) : Int).toNat))] [AV.ptr 0 0, .agg (pcells (f i))] := by rw [Int.toNat_natCast]; exact leAll_refl _
theorem bodyP_oo (hl : n0 ≤ 1000000) (i : Nat) (h : i < n0) (N n : Nat) (buf out : List UInt8) (n2 : Nat) (buf2 out2 : List UInt8) (hc : ACalls Try.prog noG 18 [.ptr 0 0, .agg (pcells (f i))] (rO N n buf out) nilE (rM N n2 buf2 out2)) :
    CodeC Try.prog noG 34 (loopAt Try.f17 0) (slP n0 f i) (rO N n buf out) .normal (slP n0 f (i + 1)) (rM N n2 buf2 out2) := by
  have w := wq i 1 (by omega)
  have lf := leF f i
  have e := lpoo N n n2 buf out buf2 out2 n0 f i (by
    simp only [AllP]
    repeat' (first | exact trivial | exact hc | exact lf | (simp; omega) | omega | exact Le.refl _ | exact RowLe.refl _ | with_reducible apply And.intro | exact rfl))
  rw [show ((1 : Nat) : Int) = 1 from rfl] at w
  rw [w] at e
  exact e
theorem bodyP_nn (hl : n0 ≤ 1000000) (i : Nat) (h : i < n0) (N n : Nat) (buf : List UInt8) (n2 : Nat) (buf2 : List UInt8) (hc : ACalls Try.prog noG 18 [.ptr 0 0, .agg (pcells (f i))] (rN N n buf) nilE (rN N n2 buf2)) :
    CodeC Try.prog noG 34 (loopAt Try.f17 0) (slP n0 f i) (rN N n buf) .normal (slP n0 f (i + 1)) (rN N n2 buf2) := by
  have w := wq i 1 (by omega)
  have lf := leF f i
  have e := lpnn N n n2 buf buf2 n0 f i (by
    simp only [AllP]
    repeat' (first | exact trivial | exact hc | exact lf | (simp; omega) | omega | exact Le.refl _ | exact RowLe.refl _ | with_reducible apply And.intro | exact rfl))
  rw [show ((1 : Nat) : Int) = 1 from rfl] at w
  rw [w] at e
  exact e
theorem bodyP_no (hl : n0 ≤ 1000000) (i : Nat) (h : i < n0) (N n : Nat) (buf : List UInt8) (n2 : Nat) (buf2 out2 : List UInt8) (hc : ACalls Try.prog noG 18 [.ptr 0 0, .agg (pcells (f i))] (rN N n buf) nilE (rO N n2 buf2 out2)) :
    CodeC Try.prog noG 34 (loopAt Try.f17 0) (slP n0 f i) (rN N n buf) .normal (slP n0 f (i + 1)) (rO N n2 buf2 out2) := by
  have w := wq i 1 (by omega)
  have lf := leF f i
  have e := lpno N n n2 buf buf2 out2 n0 f i (by
    simp only [AllP]
    repeat' (first | exact trivial | exact hc | exact lf | (simp; omega) | omega | exact Le.refl _ | exact RowLe.refl _ | with_reducible apply And.intro | exact rfl))
  rw [show ((1 : Nat) : Int) = 1 from rfl] at w
  rw [w] at e
  exact e

theorem loopP (hl : n0 ≤ 10000) (hv : ∀ i, i < n0 → (f i).text.size ≤ 65536) (N : Nat) (h18 : 18 ≤ N) (hN : N ≤ 65536) :
    ∃ o2 buf2 n2, buf2.length = N ∧ n2 ≤ N ∧ cont o2 buf2 n2 = (List.range n0).flatMap (fun i => encX (f i)) ∧ (o2.getD []).length ≤ bigO ∧
      CodeC Try.prog noG 34 (.loop (loopAt Try.f17 0)) (slP n0 f 0) (rN N 0 (List.replicate N 0)) (.exit 0) [(9, .ptr 0 0), (8, .ptr 1 0)] (rS N n2 buf2 o2) := by
  have hln : (List.range n0).length = n0 := by simp
  have hget : ∀ i (h : i < (List.range n0).length), (List.range n0)[i] = i := fun i h => by simp
  obtain ⟨o2, buf2, n2, c1, c2, c3, c4, c5⟩ := writtenN (l := List.range n0) (enc := fun i => encX (f i)) (g := 18) (el := fun i => .agg (pcells (f i))) (K := 65542) (sl := slP n0 f) (n0 := 34) (c := loopAt Try.f17 0) (vals' := [(9, .ptr 0 0), (8, .ptr 1 0)])
    (fun x hx => encX_len _ (hv x (by simpa using hx))) (fun x hx => cloExt _ (hv x (by simpa using hx))) (fun i => ⟨rfl, rfl, rfl⟩)
    (fun i h N n buf out n2 buf2 out2 hc => by rw [hget i h] at hc; exact bodyP_oo n0 f (by omega) i (by omega) N n buf out n2 buf2 out2 hc)
    (fun N n buf out => by rw [hln]; exact lpxo N n buf out n0 f n0 (by simp [AllP]))
    (fun i h N n buf n2 buf2 hc => by rw [hget i h] at hc; exact bodyP_nn n0 f (by omega) i (by omega) N n buf n2 buf2 hc)
    (fun i h N n buf n2 buf2 out2 hc => by rw [hget i h] at hc; exact bodyP_no n0 f (by omega) i (by omega) N n buf n2 buf2 out2 hc)
    (fun N n buf => by rw [hln]; exact lpxn N n buf n0 f n0 (by simp [AllP]))
    n0 0 (by simp) (Nat.zero_le _) N 0 (List.replicate N 0) h18 hN (by simp) (Nat.zero_le _) (by simp [bigO]; omega)
  refine ⟨o2, buf2, n2, c1, c2, by simpa using c3, c4, ?_⟩
  cases o2 with
  | none => exact LoopK.code [some 0, some 1, some 2] c5 rfl rfl
  | some out2 => exact LoopK.code [some 0, some 1, some 2, some 3] c5 rfl rfl

theorem streamX (hl : n0 ≤ 10000) (hv : ∀ i, i < n0 → (f i).text.size ≤ 65536) (N : Nat) (h18 : 18 ≤ N) (hN : N ≤ 65536) :
    ACalls Try.prog noG 10 [iL N, roX n0 f] [] (.tup [.bts ((List.range n0).flatMap (fun i => encX (f i))), bL true]) [] := by
  refine su N _ n0 f ?_
  have main : ACalls Try.prog noG 17 [iL N, roX n0 f, .lit (.func (.func 18) #[] #[])] [] (.tup [.bts ((List.range n0).flatMap (fun i => encX (f i))), bL true]) [] := by
    obtain ⟨o2, buf2, n2, c1, c2, c3, c4, c5⟩ := loopP n0 f hl hv N h18 hN
    have nw := newWriter N h18 hN
    have d : (if (65536 : Int) < (if (0 : Int) > (N : Int) then (0 : Int) else (N : Int)) then (65536 : Int) else (if (0 : Int) > (N : Int) then (0 : Int) else (N : Int))) = N := by
      have h : ¬ (0 : Int) > (N : Int) := by omega
      rw [if_neg h, if_neg (by omega)]
    have hbo : N ≤ bigO := by simp [bigO]; omega
    cases o2 with
    | none =>
      rcases Nat.eq_zero_or_pos n2 with rfl | h0
      · have fl := flushEndN0 N buf2
        have e := wuA N 0 buf2 n0 f (by
          simp only [AllP, leAll, d]
          repeat' (first | exact trivial | exact c5 | exact nw | exact fl | exact Le.refl _ | exact RowLe.refl _ | with_reducible apply And.intro | exact rfl))
        have h3 : (List.range n0).flatMap (fun i => encX (f i)) = [] := by rw [← c3]; simp [cont]
        rw [h3]
        exact e.le (leAll_refl _) (Le_tup ⟨Le_nil, Le.refl _, trivial⟩) rfl
      · have fl := flushEndN N n2 buf2 h0 c2 c1 hbo
        have e := wuB N n2 buf2 (buf2.take n2) n0 f (by
          simp only [AllP, leAll, d]
          repeat' (first | exact trivial | exact c5 | exact nw | exact fl | exact Le.refl _ | exact RowLe.refl _ | with_reducible apply And.intro | exact rfl))
        have h2 := (e.freezeRet 0 rfl rfl).only [] (by rfl)
        rw [← c3]
        exact h2.cast rfl rfl (by simp [AV.frz, AV.frzL, frzOwn, AV.ren, AV.renL, cont, List.take_of_length_le]) rfl
    | some out2 =>
      have fl := flushEndO N n2 buf2 out2 c2 c1 hbo c4
      have e := wuC N n2 buf2 out2 (out2 ++ buf2.take n2) n0 f (by
        simp only [AllP, leAll, d]
        repeat' (first | exact trivial | exact c5 | exact nw | exact fl | exact Le.refl _ | exact RowLe.refl _ | with_reducible apply And.intro | exact rfl))
      have h2 := (e.freezeRet 0 rfl rfl).only [] (by rfl)
      rw [← c3]
      exact h2.cast rfl rfl (by simp [AV.frz, AV.frzL, frzOwn, AV.ren, AV.renL, cont, List.take_of_length_le]) rfl
  simp only [AllP, leAll]
  repeat' (first | exact trivial | exact main | exact Le.refl _ | with_reducible apply And.intro | exact rfl)
end
end Go.Ax
