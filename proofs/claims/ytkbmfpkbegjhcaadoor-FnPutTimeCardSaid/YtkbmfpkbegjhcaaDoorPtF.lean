/-
  msgp.ensure: room behind a slice of bytes.
-/
import Derived.Test.YtkbmfpkbegjhcaaDoorPtE
set_option linter.unusedVariables false
set_option linter.unusedSimpArgs false
set_option maxRecDepth 100000
namespace Go.Ax
open Go.Proofs

theorem ensureA (bs : List UInt8) (c sz : Nat) (h : bs.length ≤ maxN) (hs : sz ≤ maxN) (h1 : bs.length ≤ c) (h2 : c < bs.length + sz) :
    ACalls Tryd.prog noG 88 [.own 1 0 bs.length (some c), .lit (.int .i64 sz)] [.gone, .bytes 5 bs] (.tup [.own 2 0 (bs.length + sz) none, .lit (.int .i64 bs.length)])
      [.gone, .gone, .cells 5 1 (bs.map u8 ++ List.replicate sz .dead)] := by
  simp only [maxN] at h hs
  have w1 : IntKind.i64.wrap (2 * (c : Int)) = 2 * (c : Int) := wrap64 (by omega) (by omega)
  have w2 : IntKind.i64.wrap (2 * (c : Int) + sz) = 2 * (c : Int) + sz := wrap64 (by omega) (by omega)
  have w3 : IntKind.i64.wrap ((c : Int) - bs.length) = (c : Int) - bs.length := wrap64 (by omega) (by omega)
  have w4 : IntKind.i64.wrap ((bs.length : Int) + sz) = (bs.length : Int) + sz := wrap64 (by omega) (by omega)
  have t1 : (2 * (c : Int) + sz).toNat = 2 * c + sz := by omega
  have t2 : ((bs.length : Int) + sz).toNat = bs.length + sz := by omega
  have m1 : min bs.length (2 * c + sz) = bs.length := by omega
  have e := e88a bs c sz (by
    simp only [w1, w2, w3, t1, t2, List.drop_zero, List.take_length, m1, w4, AllP]
    refine ⟨⟨Int.le_refl 0, by omega, .inl (by omega)⟩, ⟨by omega, Int.le_refl _, by omega⟩, by simp; omega, trivial⟩)
  simp only [w1, w2, w3, t1, t2, List.drop_zero, List.take_length, m1, w4] at e
  have e2 := e.pack [none, none, some 2] rfl
  have e3 := e2.weak 2 (.bytes 5 (bs ++ List.replicate (2 * c + sz - bs.length) 0)) (.cells 5 1 (bs.map u8 ++ List.replicate sz .dead)) (by simp) (by simp [outM, hL, nth, Row.ren]) rfl rfl rfl rfl rfl rfl
    (by simp [Row.len]; omega) (fun j a a' ha ha' => ?_) (by simp [AV.ren, AV.renL, idxM, AV.fit, AV.fitL, Row.len, Row.sz]) (fun j a ha => ?_) (fun x hx => ?_)
  · refine (e3.le (leAll_refl _) ?_ rfl).cast rfl rfl rfl (by simp [outM])
    intro ρ h O w v hv
    simp [AV.ren, AV.renL, idxM] at hv
    cases hv with
    | dr hd => cases hd
    | tup k1 k2 =>
      refine .tup k1 fun j a x ha hx => ?_
      match j with
      | 0 => simp at ha; subst ha; exact Le_cap _ _ _ _ _ _ _ _ _ (k2 0 _ x rfl hx)
      | 1 => simp at ha; subst ha; exact k2 1 _ x rfl hx
      | j + 2 => simp at ha
  · simp only [Row.cs, List.map_append] at ha ha'
    by_cases hj : j < bs.length
    · rw [List.getElem?_append_left (by simpa using hj)] at ha ha'
      rw [ha] at ha'
      cases ha'
      exact Le.refl a
    · rw [List.getElem?_append_right (by simp; omega)] at ha'
      have := List.eq_of_mem_replicate (List.mem_of_getElem? ha')
      subst this
      exact Le.dead a
  · simp only [Row.cs, List.getElem?_map] at ha
    obtain ⟨b, _, rfl⟩ := Option.map_eq_some_iff.1 ha
    exact True.intro
  · simp [outM, hL, nth, Row.ren] at hx
    have hbytes : ∀ l : List UInt8, AV.fitL 2 (Row.cells 5 1 (bs.map u8 ++ List.replicate sz .dead)).len (Row.cells 5 1 (bs.map u8 ++ List.replicate sz .dead)).sz (l.map u8) := by
      intro l
      induction l with
      | nil => exact True.intro
      | cons y l ih => exact ⟨True.intro, ih⟩
    rcases hx with rfl | rfl
    · exact ⟨True.intro, True.intro⟩
    · exact ⟨hbytes _, True.intro⟩

theorem ensureB (bs : List UInt8) (c sz : Nat) (h : bs.length ≤ maxN) (hs : sz ≤ maxN) (h1 : bs.length + sz ≤ c) (h2 : c ≤ 9223372036854775807) :
    ACalls Tryd.prog noG 88 [.own 1 0 bs.length (some c), .lit (.int .i64 sz)] [.gone, .cells 5 1 (bs.map u8 ++ List.replicate (c - bs.length) .dead)] (.tup [.own 2 0 (bs.length + sz) none, .lit (.int .i64 bs.length)])
      [.gone, .gone, .cells 5 1 (bs.map u8 ++ List.replicate sz .dead)] := by
  simp only [maxN] at h hs
  have w3 : IntKind.i64.wrap ((c : Int) - bs.length) = (c : Int) - bs.length := wrap64 (by omega) (by omega)
  have w4 : IntKind.i64.wrap ((bs.length : Int) + sz) = (bs.length : Int) + sz := wrap64 (by omega) (by omega)
  have t2 : ((bs.length : Int) + sz).toNat = bs.length + sz := by omega
  have e := e88b bs c sz (by
    simp only [w3, w4, AllP, t2]
    have hz : (fun x : TypeInfo => x.size) Tryd.prog.types[5] = 1 := by kernel_rfl
    refine ⟨⟨Int.le_refl 0, by omega, .inr ⟨c, rfl, by omega, ?_⟩⟩, by simp; omega, trivial⟩
    refine Nat.le_trans (Nat.le_of_eq (congrArg (fun k => 0 + (bs.length + sz) * k) hz)) ?_
    simp [Row.len]
    omega)
  simp only [w3, w4, t2, renL_u8] at e
  have e2 := e.pack [none, none, some 1] rfl
  have hrow : (outM (idxM [none, none, some 1] 0) (hL [.gone, .cells 5 1 (bs.map u8 ++ List.replicate (c - bs.length) .dead)]) [none, none, some 1]) = [.gone, .gone, .cells 5 1 (bs.map u8 ++ List.replicate (c - bs.length) .dead)] := by
    simp [outM, hL, nth, Row.ren, renL_u8]
  rw [hrow] at e2
  have hall : ∀ k, ∀ a ∈ bs.map u8 ++ List.replicate k .dead, ∀ p q r, AV.fit p q r a := fun k a ha p q r => by
    simp at ha
    rcases ha with ⟨b, _, rfl⟩ | ⟨_, rfl⟩ <;> exact True.intro
  have e3 := e2.weak 2 (.cells 5 1 (bs.map u8 ++ List.replicate (c - bs.length) .dead)) (.cells 5 1 (bs.map u8 ++ List.replicate sz .dead)) (by simp) rfl rfl rfl rfl rfl rfl rfl
    (by simp [Row.len]; omega) (fun j a a' ha ha' => ?_) (by simp [AV.ren, AV.renL, idxM, AV.fit, AV.fitL, Row.len, Row.sz]) (fun j a ha => hall _ a (List.mem_of_getElem? ha) _ _ _) (fun x hx => ?_)
  · refine (e3.le (leAll_refl _) ?_ rfl).cast rfl rfl rfl (by simp)
    intro ρ h O w v hv
    simp [AV.ren, AV.renL, idxM] at hv
    cases hv with
    | dr hd => cases hd
    | tup k1 k2 =>
      refine .tup k1 fun j a x ha hx => ?_
      match j with
      | 0 => simp at ha; subst ha; exact Le_cap _ _ _ _ _ _ _ _ _ (k2 0 _ x rfl hx)
      | 1 => simp at ha; subst ha; exact k2 1 _ x rfl hx
      | j + 2 => simp at ha
  · simp only [Row.cs] at ha ha'
    by_cases hj : j < bs.length
    · rw [List.getElem?_append_left (by simpa using hj)] at ha ha'
      rw [ha] at ha'
      cases ha'
      exact Le.refl a
    · rw [List.getElem?_append_right (by simp; omega)] at ha'
      have := List.eq_of_mem_replicate (List.mem_of_getElem? ha')
      subst this
      exact Le.dead a
  · simp at hx
    rcases hx with rfl | rfl
    · exact ⟨True.intro, True.intro⟩
    · exact ⟨fitL_all fun a ha => hall _ a ha _ _ _, True.intro⟩

theorem ensure (bs : List UInt8) (sz : Nat) (h : bs.length ≤ maxN) (hs : sz ≤ maxN) :
    ACalls Tryd.prog noG 88 [.own 0 0 bs.length none, .lit (.int .i64 sz)] [.bytes 5 bs] (.tup [.own 1 0 (bs.length + sz) none, .lit (.int .i64 bs.length)])
      [.gone, .cells 5 1 (bs.map u8 ++ List.replicate sz .dead)] := by
  have hm : maxN = 1000000000000 := rfl
  have e := ACalls.spare (P := Tryd.prog) (G := noG) (f := 88) (e := 5) (bs := bs) (rest := [.lit (.int .i64 sz)]) sz rfl (by omega) (fun c c1 c2 => ensureA bs c sz h hs c1 c2) (fun c c1 c2 => ensureB bs c sz h hs c1 c2)
  exact (e.pack [none, some 2] rfl).cast rfl rfl (by simp [AV.ren, AV.renL, idxM]) (by simp [outM, hL, nth, Row.ren, renL_u8])
end Go.Ax
