/-
  An abstract machine for Go functions (part 26): loops whose rounds make rows anew: from number k on the rows may be laid anew between rounds.
-/
import Derived.Test.YtdfefemnlimeeaaDoorAx25
set_option linter.unusedVariables false
set_option linter.unusedSimpArgs false
namespace Go.Ax
open Go.RowKit

/-- As 'Fr', but of the rows from number k on nothing is said. -/
structure FrK (k : Nat) (ρ : Lay) (h : Heap) (O : Nat → Prop) (w : World) (ρ' : Lay) (h' : Heap) (O' : Nat → Prop) (w' : World) : Prop where
  os : w'.os = w.os
  tape : w'.tape = w.tape
  output : w'.output = w.output
  size : w.heap.size ≤ w'.heap.size
  keep : ∀ b, b < w.heap.size → (∀ id r, h id = some r → r.live = true → (ρ id).1 ≠ b) → w'.heap[b]? = w.heap[b]?
  dom : ∀ id r, id < k → h id = some r → ∃ r', h' id = some r' ∧ (r'.live = true → r.live = true ∧ ρ' id = ρ id ∧ r'.isMap = r.isMap ∧ r'.sz = r.sz ∧ r.len ≤ r'.len ∧
      blockSize w' (ρ id).1 = blockSize w (ρ id).1)
  own : ∀ id r', h' id = some r' → r'.live = true → (∃ i r, h i = some r ∧ r.live = true ∧ (ρ i).1 = (ρ' id).1) ∨ w.heap.size ≤ (ρ' id).1
  old : ∀ b, O b → O' b
  oldnew : ∀ b, O' b → O b ∨ (∃ i r, h i = some r ∧ r.live = true ∧ (ρ i).1 = b) ∨ w.heap.size ≤ b

theorem Fr.toK (k : Nat) {ρ ρ' : Lay} {h h' : Heap} {O O' : Nat → Prop} {w w' : World} (F : Fr ρ h O w ρ' h' O' w') : FrK k ρ h O w ρ' h' O' w' :=
  ⟨F.os, F.tape, F.output, F.size, F.keep, fun id r _ hr => F.dom id r hr, F.own, F.old, F.oldnew⟩

theorem FrK.trans {k : Nat} {ρ ρ1 ρ2 : Lay} {h h1 h2 : Heap} {O O1 O2 : Nat → Prop} {w w1 w2 : World} (F : FrK k ρ h O w ρ1 h1 O1 w1) (F' : FrK k ρ1 h1 O1 w1 ρ2 h2 O2 w2) : FrK k ρ h O w ρ2 h2 O2 w2 where
  os := F'.os.trans F.os
  tape := F'.tape.trans F.tape
  output := F'.output.trans F.output
  size := Nat.le_trans F.size F'.size
  keep := fun b hb hn => by
    refine (F'.keep b (Nat.lt_of_lt_of_le hb F.size) fun id r hr hl e => ?_).trans (F.keep b hb hn)
    rcases F.own id r hr hl with ⟨i, ri, hi, hli, he⟩ | hge
    · exact hn i ri hi hli (he.trans e)
    · omega
  dom := fun id r hk hr => by
    obtain ⟨r1, hr1, hx1⟩ := F.dom id r hk hr
    obtain ⟨r2, hr2, hx2⟩ := F'.dom id r1 hk hr1
    refine ⟨r2, hr2, fun hl => ?_⟩
    obtain ⟨l1, a1, a2, a3, a4, a5⟩ := hx2 hl
    obtain ⟨l0, b1, b2, b3, b4, b5⟩ := hx1 l1
    refine ⟨l0, a1.trans b1, a2.trans b2, a3.trans b3, Nat.le_trans b4 a4, ?_⟩
    rw [b1] at a5
    exact a5.trans b5
  own := fun id r hr hl => by
    rcases F'.own id r hr hl with ⟨i, ri, hi, hli, he⟩ | hge
    · rcases F.own i ri hi hli with ⟨k, rk, hk, hlk, hek⟩ | hge
      · exact .inl ⟨k, rk, hk, hlk, hek.trans he⟩
      · exact .inr (he ▸ hge)
    · exact .inr (Nat.le_trans F.size hge)
  old := fun b hb => F'.old b (F.old b hb)
  oldnew := fun b hb => by
    rcases F'.oldnew b hb with hb | ⟨i, ri, hi, hli, he⟩ | hge
    · exact F.oldnew b hb
    · rcases F.own i ri hi hli with ⟨k, rk, hk, hlk, hek⟩ | hge
      · exact .inr (.inl ⟨k, rk, hk, hlk, hek.trans he⟩)
      · exact .inr (.inr (he ▸ hge))
    · exact .inr (.inr (Nat.le_trans F.size hge))

/-- The rows below k stay, or are no longer told of. -/
def packK (k : Nat) (M : List (Option Nat)) (h : Heap) : Bool := rangeM 0 k M && nodupM M && inM h M

section
variable {P : Program} {G : Env} {ρ : Lay} {O : Nat → Prop} {w : World}

theorem pack_outK {k : Nat} {M : List (Option Nat)} {h h0 : Heap} {ρ0 : Lay} {O0 : Nat → Prop} {w0 : World} (hf : packK k M h = true) (S : Sim G ρ h O w) (F : FrK k ρ0 h0 O0 w0 ρ h O w) :
    RenOk (idxM M 0) ρ h (layM ρ M) (hL (outM (idxM M 0) h M)) ∧ Sim G (layM ρ M) (hL (outM (idxM M 0) h M)) O w ∧ FrK k ρ0 h0 O0 w0 (layM ρ M) (hL (outM (idxM M 0) h M)) O w := by
  simp only [packK, Bool.and_eq_true] at hf
  obtain ⟨⟨f1, f2⟩, f3⟩ := hf
  have hnd := nodupM_spec f2
  have hlay : ∀ k id, M[k]? = some (some id) → layM ρ M k = ρ id := fun k id hk => by simp [layM, hk]
  have hget : ∀ j r, hL (outM (idxM M 0) h M) j = some r → r.live = true → ∃ id r0, M[j]? = some (some id) ∧ h id = some r0 ∧ r = r0.ren (idxM M 0) := fun j r hj hl => by
    rw [hL_get, outM_get] at hj
    obtain ⟨x, hx, he⟩ := Option.map_eq_some_iff.1 hj
    cases x with
    | none => subst he; cases hl
    | some id =>
      obtain ⟨r0, hr0⟩ := inM_spec f3 id (List.mem_of_getElem? hx)
      refine ⟨id, r0, hx, hr0, ?_⟩
      simp only [hr0, Option.getD_some] at he
      exact he.symm
  have hput : ∀ j id r0, M[j]? = some (some id) → h id = some r0 → hL (outM (idxM M 0) h M) j = some (r0.ren (idxM M 0)) := fun j id r0 hj hr0 => by
    rw [hL_get, outM_get, hj]
    simp [hr0]
  have R : RenOk (idxM M 0) ρ h (layM ρ M) (hL (outM (idxM M 0) h M)) := ⟨fun id j r hj hid => by
    obtain ⟨_, h2⟩ := idxM_spec hj
    rw [Nat.sub_zero] at h2
    refine ⟨_, hput j id r h2 hid, fun hl => ?_⟩
    rw [Row.ren_live] at hl
    exact ⟨hl, hlay _ _ h2, Row.ren_isMap _ _, Row.ren_sz _ _, by rw [Row.ren_len]; exact Nat.le_refl _⟩⟩
  refine ⟨R, ⟨fun j r hj => ?_, fun i j ri rj hi hj hli hlj he => ?_, fun j r hj hl => ?_, S.lt, S.glob⟩, ⟨F.os, F.tape, F.output, F.size, F.keep, fun id r hlt hr => ?_, fun j r hj hl => ?_, F.old, F.oldnew⟩⟩
  · cases hl : r.live with
    | false => cases r <;> first | trivial | cases hl
    | true =>
      obtain ⟨id, r0, g1, g2, rfl⟩ := hget j r hj hl
      exact RowR_ren R (fun _ => hlay _ _ g1) (S.rows id r0 g2)
  · obtain ⟨id, r0, g1, g2, rfl⟩ := hget i ri hi hli
    obtain ⟨id', r0', g1', g2', rfl⟩ := hget j rj hj hlj
    rw [Row.ren_live] at hli hlj
    rw [hlay _ _ g1, hlay _ _ g1'] at he
    have := S.inj id id' r0 r0' g2 g2' hli hlj he
    subst this
    exact hnd i j id g1 g1'
  · obtain ⟨id, r0, g1, g2, rfl⟩ := hget j r hj hl
    rw [Row.ren_live] at hl
    rw [hlay _ _ g1]
    exact S.notO id r0 g2 hl
  · obtain ⟨r', hr', hx⟩ := F.dom id r hlt hr
    rcases rangeM_spec f1 id hlt with hid | hid
    · rw [Nat.zero_add] at hid
      refine ⟨_, hput id id r' hid hr', fun hl => ?_⟩
      rw [Row.ren_live] at hl
      obtain ⟨a1, a2, a3, a4, a5, a6⟩ := hx hl
      exact ⟨a1, by rw [hlay _ _ hid]; exact a2, by rw [Row.ren_isMap]; exact a3, by rw [Row.ren_sz]; exact a4, by rw [Row.ren_len]; exact a5, a6⟩
    · exact ⟨.gone, by rw [hL_get, outM_get, hid]; rfl, fun hl => by cases hl⟩
  · obtain ⟨id, r0, g1, g2, rfl⟩ := hget j r hj hl
    rw [Row.ren_live] at hl
    rw [hlay _ _ g1]
    exact F.own id r0 g2 hl

end

def renS (f : Nat → Option Nat) : List (Nat × AV) → List (Nat × AV)
  | [] => []
  | (t, a) :: l => (t, a.ren f) :: renS f l

theorem renS_mem {f : Nat → Option Nat} : ∀ {l : List (Nat × AV)} {t : Nat} {a : AV}, (t, a) ∈ renS f l → ∃ b, (t, b) ∈ l ∧ a = b.ren f
  | [], t, a, h => by cases h
  | (u, b) :: l, t, a, h => by
    simp only [renS, List.mem_cons, Prod.mk.injEq] at h
    rcases h with ⟨rfl, rfl⟩ | h
    · exact ⟨b, by simp, rfl⟩
    · obtain ⟨c, h1, h2⟩ := renS_mem h
      exact ⟨c, List.mem_cons_of_mem _ h1, h2⟩

section
variable {P : Program} {G : Env}

/-- What a loop does in some rounds; the rows from number k on are laid anew. -/
def LoopK (P : Program) (G : Env) (k n : Nat) (c : Code) (vals : List (Nat × AV)) (H : List Row) (ex : AExit) (vals' : List (Nat × AV)) (H' : List Row) : Prop :=
  ∃ m, ∀ (O : Nat → Prop) (ρ : Lay) (a : Act) (w : World), Sim G ρ (hL H) O w → a.tmps.size = n → (∀ t av, (t, av) ∈ vals → VR ρ (hL H) O w av (a.tmps.getD t undef)) →
    Code.rounds P c (fun e a' w' => ∃ ρ' O', e = ex.toExit ∧ a'.tmps.size = n ∧ a'.defers = a.defers ∧
      (∀ t av, (t, av) ∈ vals' → VR ρ' (hL H') O' w' av (a'.tmps.getD t undef)) ∧ Sim G ρ' (hL H') O' w' ∧ FrK k ρ (hL H) O w ρ' (hL H') O' w') m a w

theorem LoopK.exit {k n : Nat} {c : Code} {vals vals' : List (Nat × AV)} {H H' : List Row} {ex : AExit} (h : CodeC P G n c vals H ex vals' H') (hex : ex ≠ .normal) : LoopK P G k n c vals H ex vals' H' :=
  ⟨1, fun O ρ a w S hn hv => by
    rw [rounds_succ]
    refine wp_mono (h O ρ a w S hn hv) fun e a' w' hq => ?_
    obtain ⟨ρ', O', e1, q1, q2, q3, q4, q5⟩ := hq
    subst e1
    cases ex with
    | normal => exact absurd rfl hex
    | exit id => exact ⟨ρ', O', rfl, q1, q2, q3, q4, q5.toK k⟩
    | ret => exact ⟨ρ', O', rfl, q1, q2, q3, q4, q5.toK k⟩⟩

theorem LoopK.step {k n : Nat} {c : Code} {vals vals1 vals' : List (Nat × AV)} {H H1 H' : List Row} {ex : AExit} (M : List (Option Nat)) (h : CodeC P G n c vals H .normal vals1 H1) (hM : packK k M (hL H1) = true)
    (h' : LoopK P G k n c (renS (idxM M 0) vals1) (outM (idxM M 0) (hL H1) M) ex vals' H') : LoopK P G k n c vals H ex vals' H' := by
  obtain ⟨m, h'⟩ := h'
  refine ⟨m + 1, fun O ρ a w S hn hv => ?_⟩
  rw [rounds_succ]
  refine wp_mono (h O ρ a w S hn hv) fun e a' w' hq => ?_
  obtain ⟨ρ1, O1, e1, n1, d1, v1, S1, F1⟩ := hq
  subst e1
  obtain ⟨R, S2, F2⟩ := pack_outK hM S1 (F1.toK k)
  refine rounds_mono (fun e a'' w'' hq => ?_) m a' w' (h' O1 _ a' w' S2 n1 fun t av hm => ?_)
  · obtain ⟨ρ3, O3, e3, n3, d3, v3, S3, F3⟩ := hq
    exact ⟨ρ3, O3, e3, n3, d3.trans d1, v3, S3, F2.trans F3⟩
  · obtain ⟨b, hb, rfl⟩ := renS_mem hm
    exact VR_ren R (v1 t b hb)

theorem LoopK.cast {k n : Nat} {c : Code} {vals vals1 vals' vals2 : List (Nat × AV)} {H H1 H' H2 : List Row} {ex : AExit} (h : LoopK P G k n c vals H ex vals' H') (h1 : vals = vals1) (h2 : H = H1) (h3 : vals' = vals2) (h4 : H' = H2) :
    LoopK P G k n c vals1 H1 ex vals2 H2 := by subst h1; subst h2; subst h3; subst h4; exact h

def noneM : Nat → Nat → List (Option Nat) → Bool
  | 0, 0, _ => true
  | 0, n + 1, none :: l => noneM 0 n l
  | k + 1, n + 1, _ :: l => noneM k n l
  | _, _, _ => false

theorem noneM_spec : ∀ {k n : Nat} {M : List (Option Nat)}, noneM k n M = true → ∀ i, k ≤ i → i < n → M[i]? = some none
  | 0, 0, M, _, i, _, hi => by omega
  | 0, n + 1, none :: l, h, i, _, hi => by
    cases i with
    | zero => rfl
    | succ i => rw [List.getElem?_cons_succ]; exact noneM_spec (k := 0) (n := n) h i (Nat.zero_le _) (by omega)
  | 0, n + 1, some x :: l, h, i, _, hi => by simp [noneM] at h
  | 0, n + 1, [], h, i, _, hi => by simp [noneM] at h
  | k + 1, n + 1, x :: l, h, i, hk, hi => by
    cases i with
    | zero => omega
    | succ i => rw [List.getElem?_cons_succ]; exact noneM_spec (k := k) (n := n) h i (by omega) (by omega)
  | k + 1, 0, M, h, i, hk, hi => by omega
  | k + 1, n + 1, [], h, i, hk, hi => by simp [noneM] at h

/-- The whole loop: rows below k keep their numbers, the others that came in are gone, what is left comes behind. -/
theorem LoopK.code {k n : Nat} {c : Code} {vals vals' : List (Nat × AV)} {H H' : List Row} {ex : AExit} (M : List (Option Nat)) (h : LoopK P G k n c vals H ex vals' H') (hM : packK k M (hL H') = true)
    (hN : noneM k H.length M = true) : CodeC P G n (.loop c) vals H ex (renS (idxM M 0) vals') (outM (idxM M 0) (hL H') M) := by
  obtain ⟨m, h⟩ := h
  refine fun O ρ a w S hn hv => wp_loop_rounds m (rounds_mono (fun e a' w' hq => ?_) m a w (h O ρ a w S hn hv))
  obtain ⟨ρ1, O1, e1, n1, d1, v1, S1, F1⟩ := hq
  obtain ⟨R, S2, F2⟩ := pack_outK hM S1 F1
  refine ⟨_, O1, e1, n1, d1, fun t av hm => ?_, S2, ⟨F2.os, F2.tape, F2.output, F2.size, F2.keep, fun id r hr => ?_, F2.own, F2.old, F2.oldnew⟩⟩
  · obtain ⟨b, hb, rfl⟩ := renS_mem hm
    exact VR_ren R (v1 t b hb)
  · by_cases hk : id < k
    · exact F2.dom id r hk hr
    · have hlt : id < H.length := by
        rw [hL_get] at hr
        exact (List.getElem?_eq_some_iff.1 hr).1
      exact ⟨.gone, by rw [hL_get, outM_get, noneM_spec hN id (by omega) hlt]; rfl, fun hl => by cases hl⟩

theorem CodeC.cast {n : Nat} {c : Code} {vals vals1 vals' vals2 : List (Nat × AV)} {H H1 H' H2 : List Row} {ex : AExit} (h : CodeC P G n c vals H ex vals' H') (h1 : vals = vals1) (h2 : H = H1) (h3 : vals' = vals2) (h4 : H' = H2) :
    CodeC P G n c vals1 H1 ex vals2 H2 := by subst h1; subst h2; subst h3; subst h4; exact h

theorem LoopC.toK {n : Nat} {c : Code} {vals vals' : List (Nat × AV)} {H H' : List Row} {ex : AExit} (k : Nat) (h : LoopC P G n c vals H ex vals' H') : LoopK P G k n c vals H ex vals' H' := by
  obtain ⟨m, h⟩ := h
  refine ⟨m, fun O ρ a w S hn hv => rounds_mono (fun e a' w' hq => ?_) m a w (h O ρ a w S hn hv)⟩
  obtain ⟨ρ', O', e1, q1, q2, q3, q4, q5⟩ := hq
  exact ⟨ρ', O', e1, q1, q2, q3, q4, q5.toK k⟩
end
end Go.Ax
