/-
  An abstract machine for Go functions (part 25): rows told anew: put elsewhere in the list, told less of, with the room behind a slice.
-/
import Derived.Test.YtdfefemnlimeeaaDoorAx24
set_option linter.unusedVariables false
set_option linter.unusedSimpArgs false
namespace Go.Ax

/-! ### Another order of the rows -/
def idxM : List (Option Nat) → Nat → Nat → Option Nat
  | [], _, _ => none
  | some x :: l, k, id => bif Nat.beq x id then some k else idxM l (k + 1) id
  | none :: l, k, id => idxM l (k + 1) id

def rangeM : Nat → Nat → List (Option Nat) → Bool
  | _, 0, _ => true
  | k, n + 1, some x :: l => bif Nat.beq x k then rangeM (k + 1) n l else false
  | k, n + 1, none :: l => rangeM (k + 1) n l
  | _, _ + 1, [] => false

def memM : List (Option Nat) → Nat → Bool
  | [], _ => false
  | some x :: l, id => bif Nat.beq x id then true else memM l id
  | none :: l, id => memM l id

def nodupM : List (Option Nat) → Bool
  | [] => true
  | some x :: l => bif memM l x then false else nodupM l
  | none :: l => nodupM l

def inM (h : Heap) : List (Option Nat) → Bool
  | [] => true
  | some id :: l => match h id with | some _ => inM h l | none => false
  | none :: l => inM h l

def outM (f : Nat → Option Nat) (h : Heap) : List (Option Nat) → List Row
  | [] => []
  | some id :: l => ((h id).getD .gone).ren f :: outM f h l
  | none :: l => .gone :: outM f h l

def packOk (k : Nat) (M : List (Option Nat)) (h : Heap) : Bool := rangeM 0 k M && nodupM M && inM h M

theorem idxM_spec : ∀ {M : List (Option Nat)} {b id k : Nat}, idxM M b id = some k → b ≤ k ∧ M[k - b]? = some (some id)
  | [], b, id, k, h => by simp [idxM] at h
  | none :: M, b, id, k, h => by
    simp only [idxM] at h
    obtain ⟨h1, h2⟩ := idxM_spec h
    refine ⟨by omega, ?_⟩
    rw [show k - b = (k - (b + 1)) + 1 by omega]
    simpa using h2
  | some x :: M, b, id, k, h => by
    simp only [idxM] at h
    cases hb : Nat.beq x id with
    | true => simp only [hb, cond_true, Option.some.injEq] at h; subst h; simp [Nat.eq_of_beq_eq_true hb]
    | false =>
      simp only [hb, cond_false] at h
      obtain ⟨h1, h2⟩ := idxM_spec h
      refine ⟨by omega, ?_⟩
      rw [show k - b = (k - (b + 1)) + 1 by omega]
      simpa using h2

theorem memM_iff : ∀ {M : List (Option Nat)} {x : Nat}, memM M x = true ↔ some x ∈ M
  | [], x => by simp [memM]
  | none :: M, x => by simp only [memM, memM_iff (M := M)]; simp
  | some y :: M, x => by
    simp only [memM]
    cases hb : Nat.beq y x with
    | true => simp [(Nat.eq_of_beq_eq_true hb).symm]
    | false =>
      simp only [cond_false, memM_iff (M := M)]
      have : x ≠ y := fun e => by subst e; simp at hb
      simp [this]

theorem nodupM_spec : ∀ {M : List (Option Nat)}, nodupM M = true → ∀ (i j : Nat) x, M[i]? = some (some x) → M[j]? = some (some x) → i = j
  | [], _, i, j, x, hi, hj => by simp at hi
  | none :: M, hn, i, j, x, hi, hj => by
    cases i with
    | zero => simp at hi
    | succ i =>
      cases j with
      | zero => simp at hj
      | succ j => rw [nodupM_spec (M := M) hn i j x (by simpa using hi) (by simpa using hj)]
  | some y :: M, hn, i, j, x, hi, hj => by
    simp only [nodupM] at hn
    cases hb : memM M y with
    | true => simp [hb] at hn
    | false =>
      simp only [hb, cond_false] at hn
      have hno : some y ∉ M := fun hm => by rw [memM_iff.2 hm] at hb; cases hb
      cases i with
      | zero =>
        cases j with
        | zero => rfl
        | succ j => simp at hi hj; subst hi; exact absurd (List.mem_of_getElem? hj) hno
      | succ i =>
        cases j with
        | zero => simp at hi hj; subst hj; exact absurd (List.mem_of_getElem? hi) hno
        | succ j => simp at hi hj; rw [nodupM_spec hn i j x hi hj]

theorem inM_spec {h : Heap} : ∀ {M : List (Option Nat)}, inM h M = true → ∀ id, some id ∈ M → ∃ r, h id = some r
  | [], _, id, hm => by cases hm
  | none :: M, hi, id, hm => inM_spec (M := M) hi id (by simpa using hm)
  | some x :: M, hi, id, hm => by
    simp only [inM] at hi
    split at hi
    · rename_i r hr
      rcases List.mem_cons.1 hm with he | hm
      · cases he; exact ⟨r, hr⟩
      · exact inM_spec hi id hm
    · cases hi

theorem rangeM_spec : ∀ {n k : Nat} {M : List (Option Nat)}, rangeM k n M = true → ∀ i, i < n → M[i]? = some (some (k + i)) ∨ M[i]? = some none
  | 0, k, M, _, i, hi => by omega
  | n + 1, k, [], h, i, hi => by simp [rangeM] at h
  | n + 1, k, none :: M, h, i, hi => by
    simp only [rangeM] at h
    cases i with
    | zero => simp
    | succ i =>
      have := rangeM_spec h i (by omega)
      rw [List.getElem?_cons_succ, show k + (i + 1) = k + 1 + i by omega]
      exact this
  | n + 1, k, some x :: M, h, i, hi => by
    simp only [rangeM] at h
    cases hb : Nat.beq x k with
    | false => simp [hb] at h
    | true =>
      simp only [hb, cond_true] at h
      cases i with
      | zero => simp [Nat.eq_of_beq_eq_true hb]
      | succ i =>
        have := rangeM_spec h i (by omega)
        rw [List.getElem?_cons_succ, show k + (i + 1) = k + 1 + i by omega]
        exact this

theorem outM_get {f : Nat → Option Nat} {h : Heap} : ∀ (M : List (Option Nat)) (k : Nat), (outM f h M)[k]? = (M[k]?).map fun | some id => ((h id).getD .gone).ren f | none => .gone
  | [], k => by simp [outM]
  | none :: M, 0 => by simp [outM]
  | some id :: M, 0 => by simp [outM]
  | none :: M, k + 1 => by simpa [outM] using outM_get M k
  | some id :: M, k + 1 => by simpa [outM] using outM_get M k

def layM (ρ : Lay) (M : List (Option Nat)) : Lay := fun k => match M[k]? with | some (some id) => ρ id | _ => (0, 0)

section
variable {P : Program} {G : Env} {ρ : Lay} {O : Nat → Prop} {w : World}

theorem pack_out {M : List (Option Nat)} {h : Heap} {ρ0 : Lay} {O0 : Nat → Prop} {w0 : World} {H : List Row} (hf : packOk H.length M h = true) (S : Sim G ρ h O w) (F : Fr ρ0 (hL H) O0 w0 ρ h O w) :
    RenOk (idxM M 0) ρ h (layM ρ M) (hL (outM (idxM M 0) h M)) ∧ Sim G (layM ρ M) (hL (outM (idxM M 0) h M)) O w ∧ Fr ρ0 (hL H) O0 w0 (layM ρ M) (hL (outM (idxM M 0) h M)) O w := by
  simp only [packOk, Bool.and_eq_true] at hf
  obtain ⟨⟨f1, f2⟩, f3⟩ := hf
  have hnd := nodupM_spec f2
  have hlay : ∀ k id, M[k]? = some (some id) → layM ρ M k = ρ id := fun k id hk => by simp [layM, hk]
  have hget : ∀ j r, hL (outM (idxM M 0) h M) j = some r → r.live = true → ∃ id r0, M[j]? = some (some id) ∧ h id = some r0 ∧ r = r0.ren (idxM M 0) := fun j r hj hl => by
    rw [hL_get, outM_get] at hj
    obtain ⟨x, hx, he⟩ := Option.map_eq_some_iff.1 hj
    cases x with
    | none => subst he; cases hl
    | some id =>
      obtain ⟨r0, hr0⟩ := inM_spec f3 id (List.mem_of_getElem? hx)
      refine ⟨id, r0, hx, hr0, ?_⟩
      simp only [hr0, Option.getD_some] at he
      exact he.symm
  have hput : ∀ j id r0, M[j]? = some (some id) → h id = some r0 → hL (outM (idxM M 0) h M) j = some (r0.ren (idxM M 0)) := fun j id r0 hj hr0 => by
    rw [hL_get, outM_get, hj]
    simp [hr0]
  have R : RenOk (idxM M 0) ρ h (layM ρ M) (hL (outM (idxM M 0) h M)) := ⟨fun id j r hj hid => by
    obtain ⟨_, h2⟩ := idxM_spec hj
    rw [Nat.sub_zero] at h2
    refine ⟨_, hput j id r h2 hid, fun hl => ?_⟩
    rw [Row.ren_live] at hl
    exact ⟨hl, hlay _ _ h2, Row.ren_isMap _ _, Row.ren_sz _ _, by rw [Row.ren_len]; exact Nat.le_refl _⟩⟩
  refine ⟨R, ⟨fun j r hj => ?_, fun i j ri rj hi hj hli hlj he => ?_, fun j r hj hl => ?_, S.lt, S.glob⟩, ⟨F.os, F.tape, F.output, F.size, F.keep, fun id r hr => ?_, fun j r hj hl => ?_, F.old, F.oldnew⟩⟩
  · cases hl : r.live with
    | false => cases r <;> first | trivial | cases hl
    | true =>
      obtain ⟨id, r0, g1, g2, rfl⟩ := hget j r hj hl
      exact RowR_ren R (fun _ => hlay _ _ g1) (S.rows id r0 g2)
  · obtain ⟨id, r0, g1, g2, rfl⟩ := hget i ri hi hli
    obtain ⟨id', r0', g1', g2', rfl⟩ := hget j rj hj hlj
    rw [Row.ren_live] at hli hlj
    rw [hlay _ _ g1, hlay _ _ g1'] at he
    have := S.inj id id' r0 r0' g2 g2' hli hlj he
    subst this
    exact hnd i j id g1 g1'
  · obtain ⟨id, r0, g1, g2, rfl⟩ := hget j r hj hl
    rw [Row.ren_live] at hl
    rw [hlay _ _ g1]
    exact S.notO id r0 g2 hl
  · obtain ⟨r', hr', hx⟩ := F.dom id r hr
    have hlt : id < H.length := by
      rw [hL_get] at hr
      exact (List.getElem?_eq_some_iff.1 hr).1
    rcases rangeM_spec f1 id hlt with hid | hid
    · rw [Nat.zero_add] at hid
      refine ⟨_, hput id id r' hid hr', fun hl => ?_⟩
      rw [Row.ren_live] at hl
      obtain ⟨a1, a2, a3, a4, a5, a6⟩ := hx hl
      exact ⟨a1, by rw [hlay _ _ hid]; exact a2, by rw [Row.ren_isMap]; exact a3, by rw [Row.ren_sz]; exact a4, by rw [Row.ren_len]; exact a5, a6⟩
    · exact ⟨.gone, by rw [hL_get, outM_get, hid]; rfl, fun hl => by cases hl⟩
  · obtain ⟨id, r0, g1, g2, rfl⟩ := hget j r hj hl
    rw [Row.ren_live] at hl
    rw [hlay _ _ g1]
    exact F.own id r0 g2 hl

/-- The rows that come out, in another order; some no longer told of. -/
theorem ACalls.pack {f : FuncId} {args : List AV} {H H' : List Row} {ret : AV} (M : List (Option Nat)) (h : ACalls P G f args H ret H') (hM : packOk H.length M (hL H') = true) :
    ACalls P G f args H (ret.ren (idxM M 0)) (outM (idxM M 0) (hL H') M) :=
  ⟨h.1, fun O ρ w vals S hl hv => (h.2 O ρ w vals S hl hv).mono fun e w' ⟨v, ρ', O', he, hr, S', F'⟩ => by
    obtain ⟨q1, q2, q3⟩ := pack_out hM S' F'
    exact ⟨v, _, O', he, VR_ren q1 hr, q2, q3⟩⟩

/-! ### Rows told less of -/
mutual
def AV.fit (k : Nat) (n s : Nat) : AV → Prop
  | .own id off len _ => id = k → off + len * s ≤ n
  | .agg cs => AV.fitL k n s cs
  | .tup cs => AV.fitL k n s cs
  | .ifc _ v => AV.fit k n s v
  | .opt _ v => AV.fit k n s v
  | .clo _ fs cp => AV.fitL k n s fs ∧ AV.fitL k n s cp
  | .ptr .. => True
  | .mp _ => True
  | .dead => True
  | .lit _ => True
  | .bts _ => True
  | .ro .. => True
  | .rp .. => True
def AV.fitL (k : Nat) (n s : Nat) : List AV → Prop
  | [] => True
  | a :: l => AV.fit k n s a ∧ AV.fitL k n s l
end

theorem fitL_mem {k n s : Nat} : ∀ {l : List AV}, AV.fitL k n s l → ∀ a ∈ l, AV.fit k n s a
  | [], _, a, h => by cases h
  | b :: l, ⟨h1, h2⟩, a, h => by
    rcases List.mem_cons.1 h with rfl | h
    · exact h1
    · exact fitL_mem h2 a h

theorem VR_weak {h h2 : Heap} {k : Nat} {r r' : Row} (hk : h k = some r) (hk2 : h2 k = some r') (hne : ∀ j, j ≠ k → h2 j = h j) (hl : r'.live = true) (hl0 : r.live = true) (hm : r'.isMap = r.isMap) (hs : r'.sz = r.sz)
    {a : AV} {v : Value} (hv : VR ρ h O w a v) (hf : a.fit k r'.len r'.sz) : VR ρ h2 O w a v := by
  induction hv with
  | dr hd => exact .dr hd
  | @own id off len cap x a c m h1 h2' h3 h4 h5 h6 h7 h8 h8' h9 h10 h11 =>
    by_cases e : id = k
    · subst e
      rw [hk] at h1
      cases h1
      exact .own hk2 hl (by rw [hm]; exact h3) (hf rfl) h5 h6 h7 h8 h8' h9 (by rw [hs]; exact h10) h11
    · exact .own (by rw [hne id e]; exact h1) h2' h3 h4 h5 h6 h7 h8 h8' h9 h10 h11
  | @ownGone id off len cap x a l c h1 h2' =>
    by_cases e : id = k
    · subst e; rw [hk] at h1; cases h1; rw [hl0] at h2'; cases h2'
    · exact .ownGone (by rw [hne id e]; exact h1) h2'
  | @ptr id off x h1 h2' h3 =>
    by_cases e : id = k
    · subst e; rw [hk] at h1; cases h1; exact .ptr hk2 hl (by rw [hm]; exact h3)
    · exact .ptr (by rw [hne id e]; exact h1) h2' h3
  | @ptrGone id off x a h1 h2' =>
    by_cases e : id = k
    · subst e; rw [hk] at h1; cases h1; rw [hl0] at h2'; cases h2'
    · exact .ptrGone (by rw [hne id e]; exact h1) h2'
  | @mp id x h1 h2' =>
    by_cases e : id = k
    · subst e; rw [hk] at h1; cases h1; exact .mp hk2 (by rw [hm]; exact h2')
    · exact .mp (by rw [hne id e]; exact h1) h2'
  | @mpGone id x a h1 h2' =>
    by_cases e : id = k
    · subst e; rw [hk] at h1; cases h1; rw [hl0] at h2'; cases h2'
    · exact .mpGone (by rw [hne id e]; exact h1) h2'
  | agg h1 h2' ih => exact .agg h1 fun j c v hc hv => ih j c v hc hv (fitL_mem hf c (List.mem_of_getElem? hc))
  | tup h1 h2' ih => exact .tup h1 fun j c v hc hv => ih j c v hc hv (fitL_mem hf c (List.mem_of_getElem? hc))
  | ifc h1 ih => exact .ifc (ih hf)
  | opt h1 h2 ih => exact .opt (fun hp => ih hp hf) h2
  | clo h1 h2' h3 h4 ih1 ih2 =>
    exact .clo h1 h2' (fun j c v hc hv => ih1 j c v hc hv (fitL_mem hf.1 c (List.mem_of_getElem? hc))) (fun j c v hc hv => ih2 j c v hc hv (fitL_mem hf.2 c (List.mem_of_getElem? hc)))

def rowFit (k n s : Nat) (r : Row) : Prop := AV.fitL k n s r.cs ∧ AV.fitL k n s (r.ents.map (·.2))

/-- A new row among the results is told less of. -/
theorem ACalls.weak {f : FuncId} {args : List AV} {H H' : List Row} {ret : AV} (k : Nat) (r r' : Row) (h : ACalls P G f args H ret H') (hkH : H.length ≤ k) (hk : H'[k]? = some r) (hl : r.live = true) (hm : r.isMap = false)
    (hl' : r'.live = true) (hm' : r'.isMap = false) (he : r'.elem = r.elem) (hs : r'.sz = r.sz) (hlen : r'.len ≤ r.len) (hc : ∀ (j : Nat) a a', r.cs[j]? = some a → r'.cs[j]? = some a' → Le a a')
    (hret : ret.fit k r'.len r'.sz) (hcf : ∀ (j : Nat) a, r.cs[j]? = some a → a.fit k r'.len r'.sz) (hrows : ∀ x ∈ H', rowFit k r'.len r'.sz x) :
    ACalls P G f args H ret (H'.set k r') :=
  ⟨h.1, fun O ρ w vals S hl0 hv => (h.2 O ρ w vals S hl0 hv).mono fun e w' ⟨v, ρ', O', hev, hr, S', F'⟩ => by
    have hlt : k < H'.length := (List.getElem?_eq_some_iff.1 hk).1
    have hk1 : hL H' k = some r := by rw [hL_get]; exact hk
    have hk2 : hL (H'.set k r') k = some r' := by rw [hL_get, List.getElem?_set_self hlt]
    have hne : ∀ j, j ≠ k → hL (H'.set k r') j = hL H' j := fun j hj => by rw [hL_get, hL_get, List.getElem?_set_ne (Ne.symm hj)]
    have V : ∀ {a v}, VR ρ' (hL H') O' w' a v → a.fit k r'.len r'.sz → VR ρ' (hL (H'.set k r')) O' w' a v := fun hv hf => VR_weak hk1 hk2 hne hl' hl (by rw [hm', hm]) hs hv hf
    have hback : ∀ j x, hL (H'.set k r') j = some x → ∃ y, hL H' j = some y ∧ y.live = x.live ∧ (j = k ∧ x = r' ∧ y = r ∨ j ≠ k ∧ x = y) := fun j x hj => by
      by_cases hjk : j = k
      · subst hjk; rw [hk2] at hj; cases hj; exact ⟨r, hk1, by rw [hl, hl'], .inl ⟨rfl, rfl, rfl⟩⟩
      · rw [hne j hjk] at hj; exact ⟨x, hj, rfl, .inr ⟨hjk, rfl⟩⟩
    refine ⟨v, ρ', O', hev, V hr hret, ⟨fun j x hj => ?_, fun i j ri rj hi hj hli hlj hee => ?_, fun j x hj hlx => ?_, S'.lt, S'.glob⟩,
      ⟨F'.os, F'.tape, F'.output, F'.size, F'.keep, fun id x hx => ?_, fun j x hj hlx => ?_, F'.old, F'.oldnew⟩⟩
    · obtain ⟨y, hy, _, hcase⟩ := hback j x hj
      rcases hcase with ⟨rfl, rfl, rfl⟩ | ⟨hjk, rfl⟩
      · rw [rowR_cells hl' hm']
        obtain ⟨cur, g1, g2, g3⟩ := (rowR_cells hl hm).1 (S'.rows j y hy)
        refine ⟨cur, by rw [he]; exact g1, by rw [Row.cs_length] at g2 ⊢; omega, fun i a ha => ?_⟩
        have hi : i < y.cs.length := by
          have := (List.getElem?_eq_some_iff.1 ha).1
          rw [Row.cs_length] at this ⊢
          omega
        have h0 : y.cs[i]? = some y.cs[i] := List.getElem?_eq_some_iff.2 ⟨hi, rfl⟩
        obtain ⟨u, u1, u2⟩ := g3 i _ h0
        exact ⟨u, u1, hc i _ a h0 ha _ _ _ _ _ (V u2 (hcf i _ h0))⟩
      · have hx' : x ∈ H' := by rw [hL_get] at hy; exact List.mem_of_getElem? hy
        obtain ⟨fc, fe⟩ := hrows x hx'
        have hR := S'.rows j x hy
        cases x with
        | gone => trivial
        | map kd es =>
          obtain ⟨ents, clock, g1, g2, g3, g4⟩ := hR
          refine ⟨ents, clock, g1, g2, g3, fun i n a ha => ?_⟩
          obtain ⟨ee, q1, q2, q3⟩ := g4 i n a ha
          exact ⟨ee, q1, q2, V q3 (fitL_mem fe a (List.mem_map.2 ⟨(n, a), List.mem_of_getElem? ha, rfl⟩))⟩
        | cells e sz cs =>
          obtain ⟨cur, g1, g2, g3⟩ := hR
          refine ⟨cur, g1, g2, fun i a ha => ?_⟩
          obtain ⟨u, u1, u2⟩ := g3 i a ha
          exact ⟨u, u1, V u2 (fitL_mem fc a (List.mem_of_getElem? ha))⟩
        | bytes e bs =>
          obtain ⟨cur, g1, g2, g3⟩ := hR
          refine ⟨cur, g1, g2, fun i a ha => ?_⟩
          obtain ⟨u, u1, u2⟩ := g3 i a ha
          exact ⟨u, u1, V u2 (fitL_mem fc a (List.mem_of_getElem? ha))⟩
    · obtain ⟨y, hy, ly, _⟩ := hback i ri hi
      obtain ⟨y', hy', ly', _⟩ := hback j rj hj
      exact S'.inj i j y y' hy hy' (by rw [ly]; exact hli) (by rw [ly']; exact hlj) hee
    · obtain ⟨y, hy, ly, _⟩ := hback j x hj
      exact S'.notO j y hy (by rw [ly]; exact hlx)
    · obtain ⟨r2, h2, hx2⟩ := F'.dom id x hx
      have hid : id ≠ k := fun h => by
        rw [hL_get] at hx
        have := (List.getElem?_eq_some_iff.1 hx).1
        omega
      exact ⟨r2, by rw [hne id hid]; exact h2, hx2⟩
    · obtain ⟨y, hy, ly, _⟩ := hback j x hj
      exact F'.own j y hy (by rw [ly]; exact hlx)⟩

theorem Le_cap (i o l : Nat) (c : Option Nat) : Le (.own i o l c) (.own i o l none) := fun ρ h O w v hv => by
  cases hv with
  | dr hd => cases hd
  | own h1 h2 h3 h4 h5 h6 h7 h8 h9 h10 h11 h12 =>
    exact .own h1 h2 h3 h4 h5 h6 (fun hor => h7 (hor.elim .inl fun ⟨c', he, _⟩ => by cases he)) h8 h9 h10 h11 (fun c' he => by cases he)
  | ownGone h1 h2 => exact .ownGone h1 h2

/-! ### The room behind a slice -/
theorem relay {e n : Nat} {bs : List UInt8} {v : Value} {R : Nat → Row} (S : Sim G ρ (hL [.bytes e bs]) O w) (hn : bs.length = n) (hv : VR ρ (hL [.bytes e bs]) O w (.own 0 0 n none) v)
    (hR : ∀ c, n ≤ c → (R c).live = true ∧ (R c).isMap = false ∧ (R c).elem = e ∧ (R c).sz = 1 ∧ n ≤ (R c).len ∧ (R c).len ≤ c ∧
      ∀ (j : Nat) a, (R c).cs[j]? = some a → (∃ b, bs[j]? = some b ∧ a = u8 b) ∨ a = .dead) :
    ∃ c ρ', n ≤ c ∧ c ≤ 9223372036854775807 ∧ Sim G ρ' (hL [.gone, R c]) O w ∧ Fr ρ (hL [.bytes e bs]) O w ρ' (hL [.gone, R c]) O w ∧ VR ρ' (hL [.gone, R c]) O w (.own 1 0 n (some c)) v := by
  have h0 : hL [.bytes e bs] 0 = some (.bytes e bs) := rfl
  obtain ⟨a, c, m, rfl, k1, k2, k3, k4, k5, k6, k7, k8, k9⟩ := VR_own hv h0 rfl
  obtain ⟨r1, r2, r3, r4, r5, r6, r7⟩ := hR c k5
  obtain ⟨cur, g1, g2, g3⟩ := row_cells S h0 rfl rfl
  have hm : m = cur.size := by simp only [blockSize, g1] at k7; exact (Option.some.inj k7).symm
  simp only [Row.sz, Nat.mul_one, Row.len, Row.cs] at k8 g2 g3
  have hone : ∀ j x, hL [.gone, R c] j = some x → x.live = true → j = 1 ∧ x = R c := fun j x hj hl => by
    match j with
    | 0 => simp [hL, nth] at hj; subst hj; cases hl
    | 1 => simp [hL, nth] at hj; exact ⟨rfl, hj.symm⟩
    | j + 2 => simp [hL, nth] at hj
  have h1 : hL [.gone, R c] 1 = some (R c) := rfl
  let ρ' : Lay := fun j => if j = 1 then (a.block, a.off) else ρ j
  have hρ1 : ρ' 1 = (a.block, a.off) := rfl
  have F : Fr ρ (hL [.bytes e bs]) O w ρ' (hL [.gone, R c]) O w :=
    { os := rfl, tape := rfl, output := rfl, size := Nat.le_refl _, keep := fun _ _ _ => rfl
      dom := fun id x hx => by
        match id with
        | 0 => exact ⟨.gone, rfl, fun hl => by cases hl⟩
        | id + 1 => simp [hL, nth] at hx
      own := fun id x hx hl => by
        obtain ⟨rfl, rfl⟩ := hone id x hx hl
        exact .inl ⟨0, _, h0, rfl, by rw [hρ1]; exact k3.symm⟩
      old := fun _ h => h
      oldnew := fun _ h => .inl h }
  refine ⟨c, ρ', k5, k6, S.step F (fun id x hx hl => .inr ?_) (fun i j ri rj hi hj hli hlj he => ?_) (fun id x hx hl hO => ?_) S.lt, F, ?_⟩
  · obtain ⟨rfl, rfl⟩ := hone id x hx hl
    rw [rowR_cells r1 r2, hρ1]
    refine ⟨cur, by rw [r3]; simp only [k3]; exact g1, by rw [Row.cs_length]; simp only; omega, fun j y hj => ?_⟩
    have hjlt : j < (R c).len := by rw [← Row.cs_length]; exact (List.getElem?_eq_some_iff.1 hj).1
    rcases r7 j y hj with ⟨b, hb, rfl⟩ | rfl
    · obtain ⟨u, u1, u2⟩ := g3 j (u8 b) (by simp [hb])
      have hpos : 0 < n := by have := (List.getElem?_eq_some_iff.1 hb).1; omega
      have ho := k4 (.inl hpos)
      refine ⟨u, by simp only [ho, Nat.add_zero]; exact u1, ?_⟩
      have := VR_lit u2
      subst this
      exact VR.ofLit _
    · have hlt : a.off + j < cur.size := by omega
      exact ⟨cur[a.off + j], by simp [hlt], .dr (.dead _)⟩
  · obtain ⟨rfl, rfl⟩ := hone i ri hi hli
    obtain ⟨rfl, rfl⟩ := hone j rj hj hlj
    rfl
  · obtain ⟨rfl, rfl⟩ := hone id x hx hl
    exact S.notO 0 _ h0 rfl (by rw [← k3]; exact hO)
  · exact .own h1 r1 r2 (by rw [r4]; omega) k2 rfl (fun _ => by rw [hρ1]; simp) k5 k6 (by rw [hρ1]; simp only [k3]; exact k7) (by rw [r4, Nat.mul_one]; exact k8) (fun c' he => by cases he; rfl)

/-- A call whose first argument is a slice of bytes: the room behind it is too small, or it is there to be written. -/
theorem ACalls.spare {f : FuncId} {e : TypeId} {bs : List UInt8} {rest : List AV} {ret : AV} {H' : List Row} (sz : Nat) (hrest : AV.closedL rest = true) (hbig : bs.length + sz ≤ 9223372036854775807)
    (h1 : ∀ c, bs.length ≤ c → c < bs.length + sz → ACalls P G f (.own 1 0 bs.length (some c) :: rest) [.gone, .bytes e bs] ret H')
    (h2 : ∀ c, bs.length + sz ≤ c → c ≤ 9223372036854775807 → ACalls P G f (.own 1 0 bs.length (some c) :: rest) [.gone, .cells e 1 (bs.map u8 ++ List.replicate (c - bs.length) .dead)] ret H') :
    ACalls P G f (.own 0 0 bs.length none :: rest) [.bytes e bs] ret H' := by
  refine ⟨?_, fun O ρ w vals S hl hv => ?_⟩
  · by_cases hs : 0 < sz
    · exact (h1 bs.length (Nat.le_refl _) (by omega)).1
    · exact (h2 _ (Nat.le_refl _) hbig).1
  · cases vals with
    | nil => simp at hl
    | cons v vs =>
    let R : Nat → Row := fun c => if c < bs.length + sz then .bytes e bs else .cells e 1 (bs.map u8 ++ List.replicate (c - bs.length) .dead)
    obtain ⟨c, ρ', c1, c2, S', F', V'⟩ := relay (R := R) S rfl (hv 0 _ v rfl rfl) fun c hc => by
      by_cases hlt : c < bs.length + sz
      · simp only [R, if_pos hlt]
        refine ⟨rfl, rfl, rfl, rfl, Nat.le_refl _, hc, fun j a hj => .inl ?_⟩
        simp only [Row.cs, List.getElem?_map] at hj
        obtain ⟨b, hb, rfl⟩ := Option.map_eq_some_iff.1 hj
        exact ⟨b, hb, rfl⟩
      · simp only [R, if_neg hlt]
        refine ⟨rfl, rfl, rfl, rfl, by simp [Row.len], by simp [Row.len]; omega, fun j a hj => ?_⟩
        simp only [Row.cs] at hj
        by_cases hj1 : j < bs.length
        · rw [List.getElem?_append_left (by simpa using hj1), List.getElem?_map] at hj
          obtain ⟨b, hb, rfl⟩ := Option.map_eq_some_iff.1 hj
          exact .inl ⟨b, hb, rfl⟩
        · rw [List.getElem?_append_right (by simp; omega)] at hj
          exact .inr (List.eq_of_mem_replicate (List.mem_of_getElem? hj))
    have key : ACalls P G f (.own 1 0 bs.length (some c) :: rest) [.gone, R c] ret H' := by
      by_cases hlt : c < bs.length + sz
      · simp only [R, if_pos hlt]; exact h1 c c1 hlt
      · simp only [R, if_neg hlt]; exact h2 c (by omega) c2
    refine (key.2 O ρ' w (v :: vs) S' (by simpa using hl) fun j a x ha hx => ?_).mono fun e' w' ⟨v', ρ2, O2, g1, g2, g3, g4⟩ => ⟨v', ρ2, O2, g1, g2, g3, F'.trans g4⟩
    cases j with
    | zero => simp at ha hx; subst ha; subst hx; exact V'
    | succ j =>
      have ha' : rest[j]? = some a := by simpa using ha
      exact .dr (VR_closed (hv (j + 1) a x (by simpa using ha') hx) (closedL_mem hrest a (List.mem_of_getElem? ha')))
end
end Go.Ax
