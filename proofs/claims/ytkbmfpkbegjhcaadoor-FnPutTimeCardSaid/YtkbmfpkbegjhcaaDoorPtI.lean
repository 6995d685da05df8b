/-
  laws.FnPutTime, by a contract.
-/
import Derived.Test.YtkbmfpkbegjhcaaDoorPtH
set_option linter.unusedVariables false
set_option linter.unusedSimpArgs false
set_option maxRecDepth 100000
namespace Go.Ax
open Go.Proofs

theorem putTime (bs : List UInt8) (s m : Int) (h : bs.length ≤ maxN) (h0 : 0 ≤ m) (h1 : m < 1000000000) :
    A0 16 [.bts bs, iL s, .lit (.int .i32 m)] [] (.bts (bs ++ encP s m)) [] := by
  have w4 : IntKind.i64.wrap m = m := wrap64 (by omega) (by omega)
  have e := q16 bs (bs ++ encP s m) s m (by
    simp only [AllP, leAll, w4]
    exact ⟨appendTime bs s m h h0 h1, ⟨Le.refl _, Le.refl _, trivial⟩, ⟨RowLe.refl _, trivial⟩, qAt s m h0 h1, ⟨Le.refl _, Le.refl _, trivial⟩, trivial, copied bs h, ⟨Le.refl _, trivial⟩, trivial, trivial⟩)
  have h2 := (e.freezeRet 0 rfl rfl).only [] (by rfl)
  exact h2.cast rfl rfl (by simp [AV.frz, frzOwn, AV.ren, List.take_of_length_le]) rfl

theorem takePackT (p : List UInt8) (hp : p.length = 12) : A0 19 [.bts (199 :: 12 :: 5 :: p), iL 1] [] (.tup [epack ⟨p.toArray⟩, .bts [], bL true]) [] := by
  have t1 : A0 91 [.bts (12 :: 5 :: p), iL 1] [] (.tup [uL 12, .bts (5 :: p), bL true]) [] :=
    (q91 (5 :: p) (by simp [AllP]; try omega)).cast rfl rfl (by simp only [Int.toNat_natCast, List.take_length]; rfl) rfl
  have t2 : A0 92 [uL 12, .bts (5 :: p)] [] (.tup [epack ⟨p.toArray⟩, .bts [], bL true]) [] := by
    have w1 : IntKind.u64.wrap ((1 : Int) + 12) = 13 := by decide
    have w2 : IntKind.u64.wrap (IntKind.i64.wrap (((5 :: p : List UInt8).length : Int) - 1)) = 12 := by
      have : (((5 :: p : List UInt8).length : Int) - 1) = 12 := by simp [hp]
      rw [this]; decide
    refine (q92 p ?_).cast rfl rfl ?_ rfl
    · simp only [AllP, w2]; simp [hp]
    · have e1 : (IntKind.u64.wrap ((1 : Int) + 12)).toNat = 13 := by decide
      have e2 : List.take 13 (5 :: p) = 5 :: p := List.take_of_length_le (by simp [hp])
      have e3 : List.drop 13 (5 :: p) = [] := List.drop_of_length_le (by simp [hp])
      rw [e1, e2, Int.toNat_natCast, List.take_length, e3]
      rfl
  have t3 : A0 48 [iL 199, .bts (12 :: 5 :: p), iL 1] [] (.tup [epack ⟨p.toArray⟩, .bts [], bL true]) [] :=
    q48 (12 :: 5 :: p) (5 :: p) ⟨p.toArray⟩ (by
      simp only [AllP, leAll]
      simp [t1]
      exact t2)
  exact q19 (12 :: 5 :: p) ⟨p.toArray⟩ (by
    simp only [AllP, leAll]
    simp only [Int.toNat_natCast, List.take_length]
    simp
    exact ⟨t3, by omega, by omega⟩)

theorem uint64 (p : List UInt8) (v : Int) (h0 : 0 ≤ v) (h1 : v < 18446744073709551616) (e : p.take 8 = be8 v) : A0 140 [.agg [], .bts p] [] (uL v) [] := by
  have hl : 8 ≤ p.length := by
    have := congrArg List.length e
    simp [be8] at this
    omega
  have q := (q140 p (by simp only [AllP]; repeat' (first | exact trivial | with_reducible apply And.intro | omega))).cast rfl rfl (show _ = uL (or8 (p.getD 0 0) (p.getD 1 0) (p.getD 2 0) (p.getD 3 0) (p.getD 4 0) (p.getD 5 0) (p.getD 6 0) (p.getD 7 0)) by kernel_rfl) rfl
  rw [le8 v h0 h1 p e] at q
  exact q

theorem uint32 (p : List UInt8) (v : Int) (h0 : 0 ≤ v) (h1 : v < 4294967296) (e : p.take 4 = be4 v) : A0 84 [.agg [], .bts p] [] (.lit (.int .u32 v)) [] := by
  have hl : 4 ≤ p.length := by
    have := congrArg List.length e
    simp [be4] at this
    omega
  have q := (q84 p (by simp only [AllP]; repeat' (first | exact trivial | with_reducible apply And.intro | omega))).cast rfl rfl (show _ = AV.lit (.int .u32 (or4 (p.getD 0 0) (p.getD 1 0) (p.getD 2 0) (p.getD 3 0))) by kernel_rfl) rfl
  rw [le4 v h0 h1 p e] at q
  exact q

theorem getUnix (s m : Int) (hs : -68719476736 < s ∧ s < 68719476736) (h0 : 0 ≤ m) (h1 : m < 1000000000) :
    A0 138 [.bts (be8 (IntKind.u64.wrap s) ++ be4 (IntKind.u32.wrap m))] [] (.tup [iL s, .lit (.int .i32 m)]) [] := by
  have a1 : 0 ≤ IntKind.u64.wrap s ∧ IntKind.u64.wrap s < 18446744073709551616 := by rw [wrapU64]; omega
  have a2 : IntKind.u32.wrap m = m := by rw [wrapU32]; omega
  have a3 : IntKind.i64.wrap (IntKind.u64.wrap s) = s := by
    rw [wrapU64]
    simp only [IntKind.wrap, IntKind.bits, IntKind.signed]
    simp
    omega
  have a4 : IntKind.i32.wrap m = m := by simp only [IntKind.wrap, IntKind.bits, IntKind.signed]; simp; omega
  have l8 : (be8 (IntKind.u64.wrap s)).length = 8 := rfl
  have l4 : (be4 (IntKind.u32.wrap m)).length = 4 := rfl
  have u1 := uint64 (be8 (IntKind.u64.wrap s) ++ be4 (IntKind.u32.wrap m)) (IntKind.u64.wrap s) a1.1 a1.2 rfl
  have u2 := uint32 ((be8 (IntKind.u64.wrap s) ++ be4 (IntKind.u32.wrap m)).drop 8) (IntKind.u32.wrap m) (by rw [a2]; omega) (by rw [a2]; omega) rfl
  refine (q138 (be8 (IntKind.u64.wrap s) ++ be4 (IntKind.u32.wrap m)) (IntKind.u64.wrap s) (IntKind.u32.wrap m) ?_).cast rfl rfl (by rw [a3, a2, a4]) rfl
  simp only [AllP, leAll, Int.toNat_natCast, List.take_length]
  exact ⟨u2, ⟨Le.refl _, Le.refl _, trivial⟩, trivial, ⟨by omega, by rw [List.length_append, l8, l4]; omega, by omega⟩, u1, ⟨Le.refl _, Le.refl _, trivial⟩, trivial, trivial⟩

theorem getTime (s m : Int) (hs : -68719476736 < s ∧ s < 68719476736) (h0 : 0 ≤ m) (h1 : m < 1000000000) :
    A0 20 [.bts (encP s m)] [] (.tup [iL s, .lit (.int .i32 m), .bts [], bL true]) [] := by
  have a4 : IntKind.i32.wrap m = m := by simp only [IntKind.wrap, IntKind.bits, IntKind.signed]; simp; omega
  have w4 : IntKind.i64.wrap m = m := wrap64 (by omega) (by omega)
  have g1 := getUnix s m hs h0 h1
  generalize hp : be8 (IntKind.u64.wrap s) ++ be4 (IntKind.u32.wrap m) = p at g1
  have hl : p.length = 12 := by rw [← hp]; rfl
  have he : encP s m = 199 :: 12 :: 5 :: p := by rw [← hp]; rfl
  have g2 : A0 137 [.bts (199 :: 12 :: 5 :: p)] [] (.tup [.lit (.int .i8 5), .bts [], .bts p, nI]) [] := by
    refine (q137 p ?_).cast rfl rfl ?_ rfl
    · simp only [AllP]; simp [hl]
    · simp [hl, List.take_of_length_le, List.drop_of_length_le]
  have g3 : A0 93 [.bts (199 :: 12 :: 5 :: p)] [] (.tup [.agg [iL s, iL m], .bts [], nI]) [] :=
    q93 _ p s m (by
      simp only [AllP, leAll, w4]
      simp [hl, g1, g2, qLocal s m, qAt s m h0 h1])
  have g4 : A0 49 [.bts (199 :: 12 :: 5 :: p)] [] (.tup [.agg [iL s, iL m], .bts [], nI]) [] :=
    q49 _ s m (by simp only [AllP, leAll]; simp [g3, qUTC s m])
  have g5 := q20 (199 :: 12 :: 5 :: p) s m (by
    simp only [AllP, leAll]
    simp [g4, qUnix s m, qNano s m]
    exact copied [] (by simp [maxN]))
  have h2 := (g5.freezeRet 0 rfl rfl).only [] (by rfl)
  rw [he]
  exact h2.cast rfl rfl (by simp [AV.frz, AV.frzL, frzOwn, AV.ren, AV.renL, a4]) rfl

theorem few (bs : List UInt8) : A0 17 [.bts bs] [] (bL (decide (bs.length ≤ 200))) [] :=
  (q17 bs (by simp [AllP])).cast rfl rfl (by simp; omega) rfl

theorem moment (s m : Int) : A0 18 [iL s, .lit (.int .i32 m)] [] (bL (decide (0 ≤ m ∧ m < 1000000000 ∧ -68719476736 < s ∧ s < 68719476736))) [] := by
  by_cases c1 : 0 ≤ m
  · by_cases c2 : m < 1000000000
    · by_cases c3 : -68719476736 < s
      · refine (q18a s m ?_).cast rfl rfl ?_ rfl
        · simp [AllP, c1, c2, c3]
        · simp [c1, c2, c3]
      · refine (q18d s m ?_).cast rfl rfl ?_ rfl
        · simp [AllP, c1, c2, c3]
          try omega
        · simp [c3]
    · refine (q18c s m ?_).cast rfl rfl ?_ rfl
      · simp [AllP, c1, c2]
        try omega
      · simp [c2]
  · refine (q18b s m ?_).cast rfl rfl ?_ rfl
    · simp [AllP, c1]
      try omega
    · simp [c1]

theorem fnPutTime (bs : List UInt8) (s m : Int) : A0 4 [.bts bs, iL s, .lit (.int .i32 m)] [] (bL true) [] := by
  by_cases h1 : (2147483647 : Int) < bs.length
  · exact q4a bs s m (by simp [AllP, h1])
  · have h : bs.length ≤ maxN := by simp [maxN]; omega
    have h1' : decide ((bs.length : Int) > 2147483647) = false := by simp; omega
    have p0 : A0 16 [.bts [], iL 1, .lit (.int .i32 2)] [] (.bts [199, 12, 5, 0, 0, 0, 0, 0, 0, 0, 1, 0, 0, 0, 2]) [] := (putTime [] 1 2 (by simp [maxN]) (by omega) (by omega)).cast rfl rfl (by kernel_rfl) rfl
    have p3 := few bs
    by_cases h2 : bs.length ≤ 200
    · simp only [h2, decide_true] at p3
      have p4 := moment s m
      by_cases h3 : 0 ≤ m ∧ m < 1000000000 ∧ -68719476736 < s ∧ s < 68719476736
      · simp only [h3, and_self, decide_true] at p4
        have p5 : A0 16 [.own 0 0 bs.length none, iL s, .lit (.int .i32 m)] [.bytes 5 bs] (.bts (bs ++ encP s m)) [.gone] := by
          refine ACalls.freezeArg 0 (r := .bytes 5 bs) rfl rfl ?_
          refine ((putTime bs s m h h3.1 h3.2.1).frame [.gone] (by simp [leAll, AV.ren]) rfl).cast ?_ rfl rfl rfl
          simp [AV.frz, frzOwn]
        have p6 := takePackT (be8 (IntKind.u64.wrap s) ++ be4 (IntKind.u32.wrap m)) rfl
        have p7 := getTime s m h3.2.2 h3.1 h3.2.1
        have he : (199 :: 12 :: 5 :: (be8 (IntKind.u64.wrap s) ++ be4 (IntKind.u32.wrap m)) : List UInt8) = encP s m := rfl
        rw [he] at p6
        refine (q4d bs (encP s m) s m ⟨(be8 (IntKind.u64.wrap s) ++ be4 (IntKind.u32.wrap m)).toArray⟩ ?_).cast rfl rfl (by simp) rfl
        simp only [epack] at p6
        simp only [AllP, leAll, h1']
        have d4 : (bs.length : Int) ≤ ((bs ++ encP s m).length : Int) := by rw [List.length_append]; omega
        have d5 : ((bs.length : Int) + ((encP s m).length : Int)).toNat = (bs ++ encP s m).length := by rw [List.length_append]; omega
        have d6 : List.drop bs.length (List.take (bs ++ encP s m).length (bs ++ encP s m)) = encP s m := by rw [List.take_length]; simp
        simp [p0, p3, p4, p5, p6, p7, List.take_of_length_le]
        rw [d5, d6]
        exact ⟨Le.refl _, by omega, Le.refl _, by omega, by omega⟩
      · simp only [h3, decide_false] at p4
        refine (q4c bs s m ?_).cast rfl rfl ?_ rfl
        · simp only [AllP, leAll, h1']
          simp [p0, p3, p4]
        · simp
    · simp only [h2, decide_false] at p3
      refine (q4b bs s m ?_).cast rfl rfl ?_ rfl
      · simp only [AllP, leAll, h1']
        simp [p0, p3]
      · simp
end Go.Ax
