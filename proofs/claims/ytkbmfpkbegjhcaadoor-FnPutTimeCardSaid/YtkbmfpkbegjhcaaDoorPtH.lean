/-
  The Go functions that laws.FnPutTime reaches, each by a contract.
-/
import Derived.Test.YtkbmfpkbegjhcaaDoorPtG
set_option linter.unusedVariables false
set_option linter.unusedSimpArgs false
set_option maxRecDepth 100000
namespace Go.Ax
open Go.Proofs

theorem lastStepT {f : FuncId} {args : List AV} {bs out : List UInt8} {k : Nat} (hk : out.length = bs.length + k) (h : A0 f args [.bytes 5 bs] (.own 1 0 (bs.length + k) none) [.gone, .cells 5 1 (out.map u8)]) :
    A0 f args [.bytes 5 bs] (.own 1 0 out.length none) [.gone, .bytes 5 out] := by
  rw [← hk] at h
  refine h.asBytes 1 out (by simp) rfl (fun _ => by simp) fun x hx => ?_
  simp at hx
  rcases hx with rfl | rfl
  · exact ⟨True.intro, True.intro⟩
  · refine ⟨?_, True.intro⟩
    have := fitL_u8 1 out.length 1 out
    simpa [Row.cs] using this

theorem putUnix (bs : List UInt8) (s m : Int) : A0 90 [.own 0 bs.length 12 none, iL s, .lit (.int .i32 m)] [.cells 5 1 (bs.map u8 ++ List.replicate 12 .dead)] (.tup [])
    [.cells 5 1 ((bs ++ be8 (IntKind.u64.wrap s) ++ be4 (IntKind.u32.wrap m)).map u8)] := by
  have h1 := put64 bs (IntKind.u64.wrap s)
  have h2 := put32 (bs ++ be8 (IntKind.u64.wrap s)) (IntKind.u32.wrap m)
  have hl : (be8 (IntKind.u64.wrap s)).length = 8 := rfl
  refine (q90 bs (bs ++ be8 (IntKind.u64.wrap s)) (bs ++ be8 (IntKind.u64.wrap s) ++ be4 (IntKind.u32.wrap m)) s m (IntKind.u64.wrap s) (IntKind.u32.wrap m) ?_).cast rfl rfl rfl (by simp only [renL_u8s])
  have r : ∀ f (l : List UInt8) (k : List AV), (AV.renL f k = k) → AV.renL f (l.map u8 ++ k) = l.map u8 ++ k := fun f l k hk => by rw [renL_behind, hk]
  simp only [AllP, leAll]
  refine ⟨h2, ⟨Le.refl _, ?_, Le.refl _, trivial⟩, ⟨?_, trivial⟩, ⟨by omega, by omega, .inl (by omega)⟩, h1, ⟨Le.refl _, Le.refl _, Le.refl _, trivial⟩, ⟨?_, trivial⟩, trivial⟩
  · rw [List.length_append, hl]; exact Le.refl _
  · rw [r _ _ _ rfl, r _ _ _ rfl]; exact RowLe.refl _
  · rw [r _ _ _ rfl]; exact RowLe.refl _

/-- The bytes of a point in time. -/
def encP (s m : Int) : List UInt8 := [199, 12, 5] ++ be8 (IntKind.u64.wrap s) ++ be4 (IntKind.u32.wrap m)
theorem encP_len (s m : Int) : (encP s m).length = 15 := rfl

theorem qUTC (s m : Int) : A0 89 [.agg [iL s, iL m]] [] (.agg [iL s, iL m]) [] := q89 s m (by simp [AllP])
theorem qLocal (s m : Int) : A0 139 [.agg [iL s, iL m]] [] (.agg [iL s, iL m]) [] := q139 s m (by simp [AllP])
theorem qUnix (s m : Int) : A0 50 [.agg [iL s, iL m]] [] (iL s) [] := q50 s m (by simp [AllP])
theorem qNano (s m : Int) : A0 51 [.agg [iL s, iL m]] [] (iL m) [] := q51 s m (by simp [AllP])
theorem qAt (s m : Int) (h0 : 0 ≤ m) (h1 : m < 1000000000) : A0 45 [iL s, iL m] [] (.agg [iL s, iL m]) [] := q45 s m (by
  have e1 : decide (m < 0) = false := by simp; omega
  have e2 : decide (m ≥ 1000000000) = false := by simp; omega
  simp [AllP, e1, e2])
theorem copied (bs : List UInt8) (h : bs.length ≤ maxN) : A0 44 [.bts bs] [] (.own 0 0 bs.length none) [.bytes 5 bs] := by
  simp only [maxN] at h
  exact (q44 bs (by simp [AllP]; omega)).cast rfl rfl (by simp) (by simp)

theorem appendTime (bs : List UInt8) (s m : Int) (h : bs.length ≤ maxN) (h0 : 0 ≤ m) (h1 : m < 1000000000) :
    A0 43 [.own 0 0 bs.length none, .agg [iL s, iL m]] [.bytes 5 bs] (.own 1 0 (bs ++ encP s m).length none) [.gone, .bytes 5 (bs ++ encP s m)] := by
  have hm : maxN = 1000000000000 := rfl
  have hx := h
  simp only [maxN] at hx
  have c1 := ensure bs 15 h (by omega)
  have c2 := putUnix (bs ++ [199, 12, 5]) s m
  have w1 : IntKind.i64.wrap ((bs.length : Int) + 1) = bs.length + 1 := wrap64 (by omega) (by omega)
  have w2 : IntKind.i64.wrap ((bs.length : Int) + 2) = bs.length + 2 := wrap64 (by omega) (by omega)
  have w3 : IntKind.i64.wrap ((bs.length : Int) + 3) = bs.length + 3 := wrap64 (by omega) (by omega)
  have w4 : IntKind.i32.wrap m = m := by simp only [IntKind.wrap, IntKind.bits, IntKind.signed]; simp; omega
  have t0 : (bs.length : Int).toNat = bs.length := by omega
  have t1 : ((bs.length : Int) + 1).toNat = bs.length + 1 := by omega
  have t2 : ((bs.length : Int) + 2).toNat = bs.length + 2 := by omega
  have t3 : ((bs.length : Int) + 3).toNat = bs.length + 3 := by omega
  have t4 : (((bs.length + 15 : Nat) : Int)).toNat - (bs.length + 3) = 12 := by omega
  have hcell : ∀ f, AV.renL f (bs.map u8 ++ ([.dead, .dead, .dead, .dead, .dead, .dead, .dead, .dead, .dead, .dead, .dead, .dead, .dead, .dead, .dead] : List AV)) = bs.map u8 ++ [.dead, .dead, .dead, .dead, .dead, .dead, .dead, .dead, .dead, .dead, .dead, .dead, .dead, .dead, .dead] := fun f => by rw [renL_behind]; rfl
  refine lastStepT (k := 15) (by simp [encP_len]) ((q43 bs (bs ++ [199, 12, 5]) (bs ++ encP s m) s m m ?_).cast rfl rfl rfl ?_)
  · simp only [AllP, leAll, w1, w2, w3, w4, t0, t1, t2, t3, t4, Nat.mul_one, Nat.zero_add, hcell, setL_one, set_behind, set_behind0, List.set_cons_zero, List.set_cons_succ]
    refine ⟨?_, ⟨?_, Le.refl _, Le.refl _, trivial⟩, ⟨?_, trivial⟩, qNano s m, ⟨Le.refl _, trivial⟩, trivial, qUnix s m, ⟨Le.refl _, trivial⟩, trivial, ⟨by omega, by omega, .inl (by omega)⟩, ?_, ⟨by omega, by omega⟩, ?_, ⟨by omega, by omega⟩, ?_, ⟨by omega, by omega⟩, by omega, qUTC s m, ⟨Le.refl _, trivial⟩, trivial, c1, ⟨Le.refl _, Le.refl _, trivial⟩, ⟨RowLe.refl _, trivial⟩, trivial⟩
    · rw [show bs ++ encP s m = bs ++ [199, 12, 5] ++ be8 (IntKind.u64.wrap s) ++ be4 (IntKind.u32.wrap m) by simp [encP]]
      exact c2
    · rw [List.length_append]; exact Le.refl _
    · rw [renL_behind, List.map_append, List.append_assoc]; exact RowLe.refl _
    · simp
    · simp
    · simp
  · simp only [renL_u8s]
end Go.Ax
