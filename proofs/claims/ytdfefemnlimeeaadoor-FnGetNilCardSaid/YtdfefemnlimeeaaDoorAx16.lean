/-
  An abstract machine for Go functions (part 16): one operation, shown against the model's own.
-/
import Derived.Test.YtdfefemnlimeeaaDoorAx15
set_option linter.unusedVariables false
set_option linter.unusedSimpArgs false
namespace Go.Ax

section
variable {P : Program} {G : Env} {ρ : Lay} {h hr : Heap} {O : Nat → Prop} {w : World}

theorem runV {s : Sem Value} {y : Value} {w' : World} (h : s.run P w = .ok y w') : (do pure (Next.value (← s)) : Sem Next).run P w = .ok (.value y) w' := by simp [h]
theorem runU {s : Sem Unit} {w' : World} (h : s.run P w = .ok () w') : (do s; pure Next.skip : Sem Next).run P w = .ok .skip w' := by simp [h]

def Reads (ρ : Lay) (h : Heap) (O : Nat → Prop) (w : World) (as : List AV) (vs : List Value) : Prop :=
  vs.length = as.length ∧ ∀ (j : Nat) a x, as[j]? = some a → vs[j]? = some x → VR ρ h O w a x

theorem Reads.append {as bs : List AV} {vs us : List Value} (h1 : Reads ρ h O w as vs) (h2 : Reads ρ h O w bs us) : Reads ρ h O w (as ++ bs) (vs ++ us) := by
  refine ⟨by simp [h1.1, h2.1], fun j a x ha hx => ?_⟩
  by_cases hj : j < as.length
  · rw [List.getElem?_append_left hj] at ha
    rw [List.getElem?_append_left (by rw [h1.1]; exact hj)] at hx
    exact h1.2 j a x ha hx
  · rw [List.getElem?_append_right (by omega)] at ha
    rw [List.getElem?_append_right (by rw [h1.1]; omega), h1.1] at hx
    exact h2.2 _ a x ha hx

theorem Reads.map {f : Operand → AV} {g : Operand → Value} {l : List Operand} (hop : ∀ x ∈ l, VR ρ h O w (f x) (g x)) : Reads ρ h O w (l.map f) (l.map g) := by
  refine ⟨by simp, fun j a x ha hx => ?_⟩
  rw [List.getElem?_map] at ha hx
  obtain ⟨z, hz, rfl⟩ := Option.map_eq_some_iff.1 ha
  rw [hz] at hx
  simp at hx
  subst hx
  exact hop z (List.mem_of_getElem? hz)

theorem Reads.lits (vs : List Value) : Reads ρ h O w (vs.map .lit) vs := by
  refine ⟨by simp, fun j a x ha hx => ?_⟩
  rw [List.getElem?_map, hx] at ha
  simp at ha
  subst ha
  exact VR.ofLit x

theorem run_callFunc_body {g : FuncId} {fn : Func} {vals : Array Value} (h1 : P.funcs[g]? = some fn) (h2 : (fn.name == "runtime.NumGoroutine") = false) (h3 : fn.body.isNone = false) :
    (callFunc g vals).run P w = .ok (.enter g vals) w := by
  simp only [callFunc, program, Sem.run_bind, Sem.run, Result.andThen, h1, h2, h3, Bool.false_eq_true, if_false]
  try rfl

theorem callee_sound {f : Operand → AV} {g : Operand → Value} {c : Call} {q : FuncId} {as : List AV} (ty : TypeId) (hop : ∀ x ∈ c.operands.toList, VR ρ h O w (f x) (g x)) (he : calleeE P f c = some (q, as)) :
    ∃ vals : List Value, Reads ρ h O w as vals ∧ ∀ fn, P.funcs[q]? = some fn → (fn.name == "runtime.NumGoroutine") = false → fn.body.isNone = false →
      (do let d ← resolve g c ty; invoke d.target d.args : Sem Next).run P w = .ok (.enter q vals.toArray) w := by
  have hargs : Reads ρ h O w (c.args.toList.map f) (c.args.toList.map g) := Reads.map fun x hx => hop x (by simp [Call.operands]; cases c.callee <;> simp_all)
  unfold calleeE at he
  split at he
  · rename_i x hc
    have hx := hop x (by simp [Call.operands, hc])
    split at he
    · rename_i q' fs cp hfx
      cases he
      rw [hfx] at hx
      have hgx := VR_lit hx
      refine ⟨fs.toList ++ c.args.toList.map g ++ cp.toList, (Reads.append (Reads.append (Reads.lits _) hargs) (Reads.lits _)), fun fn h1 h2 h3 => ?_⟩
      simp only [resolve, hc, hgx, Deferred.ofValue, pure_bind, invoke]
      rw [run_callFunc_body h1 h2 h3]
      congr 2
      simp
      try (apply Array.ext'; simp)
    · rename_i q' fs cp hfx
      cases he
      rw [hfx] at hx
      obtain ⟨vf, vc, hgx, l1, l2, v1, v2⟩ := VR_clo hx
      refine ⟨vf.toList ++ c.args.toList.map g ++ vc.toList, (Reads.append (Reads.append ⟨by simp [l1], fun j a x ha hx => v1 j a x ha (by simpa using hx)⟩ hargs) ⟨by simp [l2], fun j a x ha hx => v2 j a x ha (by simpa using hx)⟩), fun fn h1 h2 h3 => ?_⟩
      simp only [resolve, hc, hgx, Deferred.ofValue, pure_bind, invoke]
      rw [run_callFunc_body h1 h2 h3]
      congr 2
      simp
      try (apply Array.ext'; simp)
    · cases he
  · rename_i x name hc
    have hx := hop x (by simp [Call.operands, hc])
    split at he
    · rename_i t v hfx
      rw [hfx] at hx
      obtain ⟨u, hgx, hu⟩ := VR_ifc hx
      split at he
      · rename_i m hm
        cases hp : m.path.isEmpty with
        | false => simp [hp] at he
        | true =>
          simp only [hp, cond_true] at he
          cases hi : P.info? t with
          | none => simp [hi] at hm
          | some inf =>
          simp only [hi, Option.bind_some] at hm
          have hpath : m.path.toList = [] := by
            have := Array.isEmpty_iff.1 hp
            rw [this]
          have key : ∀ (q : FuncId) (b : Bool) (d : TypeDesc), m.func = some (q, b) → P.underlying t = some d → ((∃ e, d = .pointer e) ∧ b = true ∨ (∀ e, d ≠ .pointer e) ∧ b = false) →
              ∃ vals : List Value, Reads ρ h O w (v :: c.args.toList.map f) vals ∧ ∀ fn, P.funcs[q]? = some fn → (fn.name == "runtime.NumGoroutine") = false → fn.body.isNone = false →
                (do let d ← resolve g c ty; invoke d.target d.args : Sem Next).run P w = .ok (.enter q vals.toArray) w := fun q b d hf hd hb => by
            refine ⟨u :: c.args.toList.map g, Reads.append (as := [v]) (vs := [u]) ⟨rfl, fun j a x ha hx => ?_⟩ hargs, fun fn h1 h2 h3 => ?_⟩
            · cases j with
              | zero => simp at ha hx; subst ha; subst hx; exact hu
              | succ j => simp at ha
            · have hmeth : (method (P.types.size + Made.depth) t u name).run P w = .ok (q, u) w := by
                show (method (P.types.size + 99 + 1) t u name).run P w = _
                rw [method]
                rcases hb with ⟨⟨e, rfl⟩, rfl⟩ | ⟨hd', rfl⟩
                · simp [typeInfo, hi, hm, hpath, follow, hf, receiverAt, run_underlying hd, Place.get]
                · cases d <;> first | exact absurd rfl (hd' _) | simp [typeInfo, hi, hm, hpath, follow, hf, receiverAt, run_underlying hd, Place.get]
              have hget : (#[Value.iface t u] ++ c.args.map g)[0]? = some (Value.iface t u) := by rw [Array.getElem?_append_left (by simp)]; rfl
              have hext : #[u] ++ (#[Value.iface t u] ++ c.args.map g).extract 1 (#[Value.iface t u] ++ c.args.map g).size = (u :: c.args.toList.map g).toArray := by
                apply Array.ext'
                simp
                rw [List.take_of_length_le (by simp)]
              simp only [resolve, hc, hgx, pure_bind, invoke, hget, callMethod, Sem.run_bind, program, Sem.run, Result.andThen, hmeth]
              rw [hext, run_callFunc_body h1 h2 h3]
          split at he
          · rename_i q' e hf hd
            cases he
            exact key _ _ _ hf hd (.inl ⟨⟨e, rfl⟩, rfl⟩)
          · cases he
          · rename_i q' d hn hf hd
            cases he
            exact key _ _ _ hf hd (.inr ⟨fun e he => hn e he, rfl⟩)
          · cases he
      · cases he
    · cases he
  · cases he

theorem noOrc_spec {orc orc' : List Orc} {e : Ev} {v : AV} {us : List (Nat × Row)} {c : List Prop} (h : noOrc orc e = some (v, us, c, orc')) : e = some (v, us, c) ∧ orc' = orc := by
  unfold noOrc at h
  cases e with
  | none => simp at h
  | some x => obtain ⟨a, b, d⟩ := x; simp at h; obtain ⟨rfl, rfl, rfl, rfl⟩ := h; exact ⟨rfl, rfl⟩
theorem quiet_spec {orc orc' : List Orc} {e : Option (AV × List Prop)} {v : AV} {us : List (Nat × Row)} {c : List Prop} (h : quiet orc e = some (v, us, c, orc')) : e = some (v, c) ∧ us = [] ∧ orc' = orc := by
  unfold quiet at h
  cases e with
  | none => simp at h
  | some x => obtain ⟨a, b⟩ := x; simp at h; obtain ⟨rfl, rfl, rfl, rfl⟩ := h; exact ⟨rfl, rfl, rfl⟩
theorem still_spec {orc orc' : List Orc} {e : Option AV} {v : AV} {us : List (Nat × Row)} {c : List Prop} (h : still orc e = some (v, us, c, orc')) : e = some v ∧ us = [] ∧ c = [] ∧ orc' = orc := by
  unfold still at h
  cases e with
  | none => simp at h
  | some x => simp at h; obtain ⟨rfl, rfl, rfl, rfl⟩ := h; exact ⟨rfl, rfl, rfl, rfl⟩

theorem candE_spec {e : TypeId} {n : Nat} {x : List UInt8} : ∀ {cs : List AV} {l : List (Nat × List UInt8)} {off : Nat}, candE hr e cs = some l → nth l off = some (n, x) →
    ∃ id c, nth cs off = some (.own id 0 n c) ∧ hr id = some (.bytes e x) ∧ id ∈ candIds cs
  | [], l, off, h, hn => by simp only [candE, Option.some.injEq] at h; subst h; simp [nth] at hn
  | c :: cs, l, off, h, hn => by
    unfold candE at h
    split at h
    · cases ‹_ :: _ = []›
    · rename_i id len cp l' heq
      cases heq
      split at h
      · rename_i e' bs hid
        cases hb : Nat.beq e e' with
        | false => simp [hb] at h
        | true =>
          simp only [hb, cond_true] at h
          obtain ⟨l2, h1, h2⟩ := Option.map_eq_some_iff.1 h
          subst h2
          have he := Nat.eq_of_beq_eq_true hb
          subst he
          cases off with
          | zero =>
            simp only [nth, Option.some.injEq, Prod.mk.injEq] at hn
            obtain ⟨rfl, rfl⟩ := hn
            exact ⟨id, _, rfl, hid, by simp [candIds]⟩
          | succ off =>
            obtain ⟨id', c', g1, g2, g3⟩ := candE_spec h1 hn
            exact ⟨id', c', g1, g2, by simp [candIds, g3]⟩
      · cases h
    · cases h

theorem candE_live {e : TypeId} : ∀ {cs : List AV} {l : List (Nat × List UInt8)}, candE hr e cs = some l → ∀ id ∈ candIds cs, ∃ r, hr id = some r ∧ r.live = true
  | [], l, h, id, hm => by simp [candIds] at hm
  | c :: cs, l, h, id, hm => by
    unfold candE at h
    split at h
    · cases ‹_ :: _ = []›
    · rename_i id0 len cp l' heq
      cases heq
      split at h
      · rename_i e' bs hid
        cases hb : Nat.beq e e' with
        | false => simp [hb] at h
        | true =>
          simp only [hb, cond_true] at h
          obtain ⟨l2, h1, h2⟩ := Option.map_eq_some_iff.1 h
          simp only [candIds, List.mem_cons] at hm
          rcases hm with rfl | hm
          · exact ⟨_, hid, rfl⟩
          · exact candE_live h1 id hm
      · cases h
    · cases h

theorem look_gone {ids : List Nat} {id : Nat} : lookL (ids.map (fun i => (i, Row.gone))) id = if id ∈ ids then some .gone else none := by
  induction ids with
  | nil => simp [lookL]
  | cons a l ih =>
    simp only [List.map_cons, lookL, ih]
    by_cases h : a = id
    · subst h; simp
    · have : Nat.beq a id = false := by cases hb : Nat.beq a id with | false => rfl | true => exact absurd (Nat.eq_of_beq_eq_true hb) h
      have h' : ¬ id = a := fun e => h e.symm
      simp [this, h']

theorem pickRow_sound {t : TypeId} {a : AV} {x : Value} {v : AV} {us : List (Nat × Row)} {c : List Prop} {n fr : Nat} {bs : List UInt8} (S : Sim G ρ h O w) (hsub : ∀ id r, hr id = some r → h id = some r) (hfr : h fr = none)
    (ha : VR ρ h O w a x) (he : pickRowE P t a n bs hr fr = some (v, us, c)) (hC : AllP c) : ∃ y, (Instr.loadAt t x).run P w = .ok y w ∧ Post G ρ h O w v us y w := by
  unfold pickRowE at he
  split at he
  · rename_i id off
    split at he
    · rename_i e0 sz cs hh
      split at he
      · rename_i id0 o0 l0 c0 rest hag
        split at he
        · rename_i e b0 hid0
          split at he
          · rename_i l hl
            simp only [Option.some.injEq, Prod.mk.injEq] at he
            obtain ⟨rfl, rfl, rfl⟩ := he
            obtain ⟨k, kc, k1, k2, k3⟩ := candE_spec hl hC.1
            obtain ⟨y, r1, r2⟩ := load_sound (P := P) (t := t) (v := .own k 0 n kc) (c := [nth (.own id0 o0 l0 c0 :: rest) off = some (.own k 0 n kc)]) (ov := some (.own k 0 n kc)) S hsub ha (by
              simp only [loadE, hh, hag]) ⟨k1, trivial⟩
            refine ⟨y, r1, ?_⟩
            have hk : h k = some (.bytes e bs) := hsub _ _ k2
            have hkf : k ≠ fr := fun h' => by subst h'; rw [hfr] at hk; cases hk
            generalize hids : candIds (.own id0 o0 l0 c0 :: rest) = ids at k3 hl
            have hlive : ∀ i ∈ ids, ∃ r, h i = some r ∧ r.live = true := fun i hi => by
              obtain ⟨r, q1, q2⟩ := candE_live hl i (hids ▸ hi)
              exact ⟨r, hsub _ _ q1, q2⟩
            have hfi : fr ∉ ids := fun hm => by obtain ⟨r, q, -⟩ := hlive fr hm; rw [hfr] at q; cases q
            let ρ' : Lay := fun j => if j = fr then ρ k else ρ j
            have hh' : ∀ j, (h.upd ((fr, .bytes e bs) :: ids.map (fun i => (i, .gone)))) j = if j = fr then some (.bytes e bs) else if j ∈ ids then some .gone else h j := fun j => by
              simp only [Heap.upd, lookL]
              by_cases hj : j = fr
              · subst hj; simp
              · have : Nat.beq fr j = false := by cases hb : Nat.beq fr j with | false => rfl | true => exact absurd (Nat.eq_of_beq_eq_true hb).symm hj
                simp only [this, cond_false, look_gone, hj, if_false]
                by_cases hm : j ∈ ids <;> simp [hm]
            have F : Fr ρ h O w ρ' (h.upd ((fr, .bytes e bs) :: ids.map (fun i => (i, .gone)))) O w :=
              { os := rfl, tape := rfl, output := rfl, size := Nat.le_refl _, keep := fun _ _ _ => rfl
                dom := fun j r hj => by
                  have hjf : j ≠ fr := fun h' => by subst h'; rw [hfr] at hj; cases hj
                  rw [hh', if_neg hjf]
                  by_cases hm : j ∈ ids
                  · rw [if_pos hm]; exact ⟨_, rfl, fun h' => by cases h'⟩
                  · rw [if_neg hm]; exact ⟨_, hj, fun hlv => ⟨hlv, by simp [ρ', hjf], rfl, rfl, Nat.le_refl _, rfl⟩⟩
                own := fun j r hj hlv => by
                  rw [hh'] at hj
                  by_cases hjf : j = fr
                  · subst hjf; exact .inl ⟨k, _, hk, rfl, by simp [ρ']⟩
                  · rw [if_neg hjf] at hj
                    by_cases hm : j ∈ ids
                    · rw [if_pos hm] at hj; cases hj; cases hlv
                    · rw [if_neg hm] at hj; exact .inl ⟨j, r, hj, hlv, by simp [ρ', hjf]⟩
                old := fun _ h => h
                oldnew := fun b hb => .inl hb }
            have hinj : ∀ i j ri rj, (h.upd ((fr, .bytes e bs) :: ids.map (fun i => (i, .gone)))) i = some ri → (h.upd ((fr, .bytes e bs) :: ids.map (fun i => (i, .gone)))) j = some rj → ri.live = true → rj.live = true → (ρ' i).1 = (ρ' j).1 → i = j := fun i j ri rj hi hj hli hlj hij => by
              rw [hh'] at hi hj
              have old : ∀ i ri, i ≠ fr → (if i = fr then some (.bytes e bs) else if i ∈ ids then some .gone else h i) = some ri → ri.live = true → h i = some ri ∧ i ∉ ids ∧ ρ' i = ρ i := fun i ri hne hi hl => by
                rw [if_neg hne] at hi
                by_cases hm : i ∈ ids
                · rw [if_pos hm] at hi; cases hi; cases hl
                · rw [if_neg hm] at hi; exact ⟨hi, hm, by simp [ρ', hne]⟩
              by_cases hif : i = fr <;> by_cases hjf : j = fr
              · rw [hif, hjf]
              · obtain ⟨q1, q2, q3⟩ := old j rj hjf hj hlj
                subst hif
                rw [q3] at hij
                simp only [ρ', if_true] at hij
                have := S.inj k j _ _ hk q1 rfl hlj hij
                subst this
                exact absurd k3 q2
              · obtain ⟨q1, q2, q3⟩ := old i ri hif hi hli
                subst hjf
                rw [q3] at hij
                simp only [ρ', if_true] at hij
                have := S.inj i k _ _ q1 hk hli rfl hij
                subst this
                exact absurd k3 q2
              · obtain ⟨q1, q2, q3⟩ := old i ri hif hi hli
                obtain ⟨g1, g2, g3⟩ := old j rj hjf hj hlj
                rw [q3, g3] at hij
                exact S.inj i j _ _ q1 g1 hli hlj hij
            refine ⟨ρ', O, ?_, S.step F (fun j r hj hlv => ?_) hinj (fun j r hj hlv => ?_) S.lt, F⟩
            · cases r2 with
              | dr hd => cases hd
              | own h1 h2 h3 h4 h5 h6 h7 h8 h9 h10 h11 h12 =>
                rw [hk] at h1
                cases h1
                exact .own (r := .bytes e bs) (by rw [hh', if_pos rfl]) rfl rfl h4 h5 (by simp only [ρ', if_true]; exact h6) (by simp only [ρ', if_true]; intro hp; rcases hp with hp | ⟨_, hh, _⟩; exact h7 (.inl hp); cases hh) h8 h9 (by simp only [ρ', if_true]; exact h10) h11 (fun c' hh => by cases hh)
              | ownGone h1 h2 => rw [hk] at h1; cases h1; cases h2
            · rw [hh'] at hj
              by_cases hjf : j = fr
              · subst hjf
                rw [if_pos rfl] at hj
                cases hj
                obtain ⟨cur, g1, g2, g3⟩ := S.rows k _ hk
                refine .inr ⟨cur, by simp only [ρ', if_true]; exact g1, by simp only [ρ', if_true]; exact g2, fun i b hb => ?_⟩
                obtain ⟨z, q1, q2⟩ := g3 i b hb
                exact ⟨z, by simp only [ρ', if_true]; exact q1, VR_mono S F q2⟩
              · rw [if_neg hjf] at hj
                by_cases hm : j ∈ ids
                · rw [if_pos hm] at hj; cases hj; cases hlv
                · rw [if_neg hm] at hj
                  exact .inl ⟨hj, by simp [ρ', hjf], rfl⟩
            · rw [hh'] at hj
              by_cases hjf : j = fr
              · subst hjf; simp only [ρ', if_true]; exact S.notO k _ hk rfl
              · rw [if_neg hjf] at hj
                by_cases hm : j ∈ ids
                · rw [if_pos hm] at hj; cases hj; cases hlv
                · rw [if_neg hm] at hj
                  simp only [ρ', hjf, if_false]
                  exact S.notO j r hj hlv
          · cases he
        · cases he
      · cases he
    · cases he
  · cases he

theorem VR_opt {p : Bool} {a : AV} {x : Value} (hv : VR ρ h O w (.opt p a) x) (hp : p = true) : VR ρ h O w a x := by
  cases hv with
  | dr hd => cases hd with | opt h1 h2 => exact .dr (h1 hp)
  | opt h1 h2 => exact h1 hp

theorem VR_opt_undef {p : Bool} {a : AV} {x : Value} (hv : VR ρ h O w (.opt p a) x) (hp : p = false) : x = undef := by
  cases hv with
  | dr hd => cases hd with | opt h1 h2 => exact h2 hp
  | opt h1 h2 => exact h2 hp

theorem VR_force {a : AV} {x : Value} (hv : VR ρ h O w a x) (hC : AllP (forceC a)) : VR ρ h O w a.force x := by
  cases a with
  | opt p v => exact VR_opt hv hC.1
  | _ => exact hv

theorem pick_sound {c a b : AV} {x y z : Value} {v : AV} {us : List (Nat × Row)} {C : List Prop} (S : Sim G ρ h O w) (hc : VR ρ h O w c x) (ha : VR ρ h O w a y) (hb : VR ρ h O w b z)
    (he : pickE c a b = some (v, us, C)) (hC : AllP C) :
    ∃ u, (do pure (Next.value (if ← asBool x then y else z)) : Sem Next).run P w = .ok (.value u) w ∧ Post G ρ h O w v us u w := by
  unfold pickE at he
  split at he
  · rename_i t
    have hx := VR_lit hc
    subst hx
    refine ⟨if t then y else z, by simp [asBool], ?_⟩
    split at he
    · rename_i p q
      cases he
      have := VR_lit ha; subst this
      have := VR_lit hb; subst this
      cases t <;> exact post_pure S (VR.ofLit _)
    · rename_i q p p'
      cases he
      have := VR_lit hb; subst this
      cases t with
      | false => exact post_pure S (VR.ofLit _)
      | true => have := VR_lit (VR_opt ha (hC.1 rfl)); subst this; exact post_pure S (VR.ofLit _)
    · rename_i p q p'
      cases he
      have := VR_lit ha; subst this
      cases t with
      | true => exact post_pure S (VR.ofLit _)
      | false => have := VR_lit (VR_opt hb (hC.1 rfl)); subst this; exact post_pure S (VR.ofLit _)
    · cases he
      cases t with
      | true => have := VR_lit (VR_opt ha (hC.1 rfl)); subst this; exact post_pure S (VR.ofLit _)
      | false => have := VR_lit (VR_opt hb (hC.2.1 rfl)); subst this; exact post_pure S (VR.ofLit _)
    · cases hub : isUndef b with
      | true =>
        simp only [hub, cond_true, Option.some.injEq, Prod.mk.injEq] at he
        obtain ⟨rfl, rfl, rfl⟩ := he
        rw [hC.1]
        exact post_pure S ha
      | false =>
        simp only [hub, cond_false] at he
        cases hua : isUndef a with
        | true =>
          simp only [hua, cond_true, Option.some.injEq, Prod.mk.injEq] at he
          obtain ⟨rfl, rfl, rfl⟩ := he
          rw [hC.1]
          exact post_pure S hb
        | false => simp [hua] at he
  · cases he

/-- ONE OPERATION. -/
theorem evOp_sound {o : Oper} {f : Operand → AV} {g : Operand → Value} {fr : Nat} {orc orc' : List Orc} {v : AV} {us : List (Nat × Row)} {c : List Prop} (S : Sim G ρ h O w)
    (hsub : ∀ id r, hr id = some r → h id = some r) (hfr : ∀ i, fr ≤ i → i < fr + 64 → h i = none) (hop : ∀ x ∈ o.op.operands.toList, VR ρ h O w (f x) (g x))
    (he : evOp P G o f hr fr orc = some (v, us, c, orc')) (hC : AllP c) : RunsTo P (execOp g o) w (Post G ρ h O w v us) := by
  have hfr0 : h fr = none := hfr fr (Nat.le_refl _) (by omega)
  have pureCase : ∀ {orc1}, noOrc orc1 (evPure P o f) = some (v, us, c, orc') → RunsTo P (execOp g o) w (Post G ρ h O w v us) := fun hp => evPure_sound S hop (noOrc_spec hp).1
  have ofV : ∀ {s : Sem Value} {x : Value}, execOp g o = (do pure (Next.value (← s))) → s.run P w = .ok x w → VR ρ h O w v x → us = [] → RunsTo P (execOp g o) w (Post G ρ h O w v us) := fun e r hv hu => by
    subst hu; rw [e]; exact .inl ⟨_, _, runV r, post_pure S hv⟩
  have ofW : ∀ {s : Sem Value}, execOp g o = (do pure (Next.value (← s))) → (∃ x w', s.run P w = .ok x w' ∧ Post G ρ h O w v us x w') → RunsTo P (execOp g o) w (Post G ρ h O w v us) := fun e r => by
    obtain ⟨x, w', r, hv⟩ := r; rw [e]; exact .inl ⟨_, _, runV r, hv⟩
  obtain ⟨dst, op, type, pos, after, guard⟩ := o
  have one : ∀ (x : Operand), op.operands = #[x] → VR ρ h O w (f x) (g x) := fun x hx => hop x (by simp [hx])
  have two : ∀ (x y : Operand), op.operands = #[x, y] → VR ρ h O w (f x) (g x) ∧ VR ρ h O w (f y) (g y) := fun x y hx => ⟨hop x (by simp [hx]), hop y (by simp [hx])⟩
  cases op with
  | move x => simp only [evOp, Option.some.injEq, Prod.mk.injEq] at he; obtain ⟨rfl, rfl, rfl, rfl⟩ := he; exact .inl ⟨_, _, rfl, post_pure S (one x rfl)⟩
  | assign x => simp only [evOp, Option.some.injEq, Prod.mk.injEq] at he; obtain ⟨rfl, rfl, rfl, rfl⟩ := he; exact .inl ⟨_, _, rfl, post_pure S (one x rfl)⟩
  | pick cc a b =>
    simp only [evOp] at he
    obtain ⟨u, h1, h2⟩ := pick_sound S (hop cc (by simp [Op.operands])) (hop a (by simp [Op.operands])) (hop b (by simp [Op.operands])) (noOrc_spec he).1 hC
    exact .inl ⟨u, w, h1, h2⟩
  | alloc t => simp only [evOp] at he; exact ofW rfl (alloc_sound S hfr0 (noOrc_spec he).1)
  | box t x => simp only [evOp] at he; exact ofW rfl (box_sound S hfr0 (one x rfl) (noOrc_spec he).1)
  | build t parts =>
    simp only [evOp] at he
    exact ofW rfl (build_sound S (fun p hp => hop p.2 (by simp [Op.operands]; exact ⟨_, by simpa using hp⟩)) (noOrc_spec he).1)
  | buildSlice t len parts =>
    simp only [evOp] at he
    exact ofW rfl (buildSlice_sound S hfr0 (fun p hp => hop p.2 (by simp [Op.operands]; exact ⟨_, by simpa using hp⟩)) (noOrc_spec he).1 hC)
  | load t a =>
    simp only [evOp] at he
    have : (∃ ov, loadE P G t (f a) hr ov = some (v, c) ∧ us = []) ∨ ∃ n x, pickRowE P t (f a) n x hr fr = some (v, us, c) := by
      split at he
      · obtain ⟨e1, e2, e3⟩ := quiet_spec he; exact .inl ⟨_, e1, e2⟩
      · exact .inr ⟨_, _, (noOrc_spec he).1⟩
      · obtain ⟨e1, e2, e3⟩ := quiet_spec he; exact .inl ⟨_, e1, e2⟩
    rcases this with ⟨ov, e1, e2⟩ | ⟨n, x, e1⟩
    · obtain ⟨y, r1, r2⟩ := load_sound S hsub (one a rfl) e1 hC
      exact ofV rfl r1 r2 e2
    · obtain ⟨y, r1, r2⟩ := pickRow_sound S hsub hfr0 (one a rfl) e1 hC
      exact .inl ⟨_, _, runV r1, r2⟩
  | store t a x =>
    simp only [evOp] at he
    obtain ⟨w', r1, r2⟩ := store_sound S hsub (two a x rfl).1 (two a x rfl).2 (noOrc_spec he).1 hC
    exact .inr (.inl ⟨w', runU r1, r2⟩)
  | nilCheck x =>
    have hx := one x rfl
    simp only [evOp] at he
    split at he
    · rename_i i k hfx
      cases hl : liveAt hr i with
      | false => simp [hl] at he
      | true =>
        simp only [hl, cond_true, Option.some.injEq, Prod.mk.injEq] at he
        obtain ⟨rfl, rfl, rfl, rfl⟩ := he
        rw [hfx] at hx
        have : ∃ r, h i = some r ∧ r.live = true := by
          unfold liveAt at hl
          split at hl
          · rename_i hh; exact ⟨_, hsub _ _ hh, rfl⟩
          · rename_i hh; exact ⟨_, hsub _ _ hh, rfl⟩
          · cases hl
        obtain ⟨r, h1, h2⟩ := this
        have hgx := VR_ptr hx h1 h2
        exact .inl ⟨g x, w, by simp [execOp, hgx], post_pure S hx⟩
    · rename_i cs k hfx
      simp only [Option.some.injEq, Prod.mk.injEq] at he
      obtain ⟨rfl, rfl, rfl, rfl⟩ := he
      rw [hfx] at hx
      refine .inl ⟨g x, w, ?_, post_pure S hx⟩
      have hgx : ∃ ad, g x = .pointer (some ad) := by
        generalize g x = y at hx
        cases hx with
        | dr hd => cases hd with | rp val h1 h2 h3 => exact ⟨_, rfl⟩
      obtain ⟨ad, hgx⟩ := hgx
      simp [execOp, hgx]
    · rename_i t u hfx
      simp only [Option.some.injEq, Prod.mk.injEq] at he
      obtain ⟨rfl, rfl, rfl, rfl⟩ := he
      rw [hfx] at hx
      obtain ⟨y, hgx, _⟩ := VR_ifc hx
      exact .inl ⟨g x, w, by simp [execOp, hgx], post_pure S hx⟩
    · rename_i q a b hfx
      simp only [Option.some.injEq, Prod.mk.injEq] at he
      obtain ⟨rfl, rfl, rfl, rfl⟩ := he
      rw [hfx] at hx
      obtain ⟨vf, vc, hgx, _⟩ := VR_clo hx
      exact .inl ⟨g x, w, by simp [execOp, hgx], post_pure S hx⟩
    · exact pureCase he
  | binOp b t x y z =>
    simp only [evOp] at he
    split at he
    · rename_i v' c' hb
      simp only [Option.some.injEq, Prod.mk.injEq] at he
      obtain ⟨rfl, rfl, rfl, rfl⟩ := he
      obtain ⟨u, r1, r2⟩ := bin_sound (xo := x) (yo := y) S hsub (two x y rfl).1 (two x y rfl).2 hb hC
      exact ofV rfl r1 r2 rfl
    · exact pureCase he
  | convert src dst' x =>
    simp only [evOp] at he
    split at he
    · rename_i v' us' c' hb
      simp only [Option.some.injEq, Prod.mk.injEq] at he
      obtain ⟨rfl, rfl, rfl, rfl⟩ := he
      exact ofW rfl (self_sound S hsub (one x rfl) hb)
    split at he
    · rename_i v' c' hb
      simp only [Option.some.injEq, Prod.mk.injEq] at he
      obtain ⟨rfl, rfl, rfl, rfl⟩ := he
      exact ofW rfl (conv_sound S hsub (one x rfl) hb hC)
    · exact pureCase he
  | makeInterface t x =>
    simp only [evOp] at he
    obtain ⟨e1, e2, e3, e4⟩ := still_spec he
    obtain ⟨u, r1, r2⟩ := mkIface_sound (P := P) (one x rfl) e1
    exact ofV rfl r1 r2 e2
  | makeFunc fn first captured =>
    simp only [evOp, Option.some.injEq, Prod.mk.injEq] at he
    obtain ⟨rfl, rfl, rfl, rfl⟩ := he
    refine .inl ⟨.func fn (first.map g) (captured.map g), w, rfl, post_pure S ?_⟩
    have r1 := Reads.map (f := f) (g := g) (ρ := ρ) (h := h) (O := O) (w := w) (l := first.toList) (fun x hx => hop x (by simp [Op.operands]; exact .inl (by simpa using hx)))
    have r2 := Reads.map (f := f) (g := g) (ρ := ρ) (h := h) (O := O) (w := w) (l := captured.toList) (fun x hx => hop x (by simp [Op.operands]; exact .inr (by simpa using hx)))
    refine .clo (by simp) (by simp) (fun j c u hc hu => r1.2 j c u hc ?_) (fun j c u hc hu => r2.2 j c u hc ?_)
    · simpa using hu
    · simpa using hu
  | makeMap t r => simp only [evOp] at he; exact ofW rfl (makeMap_sound S hfr0 (noOrc_spec he).1)
  | makeSlice t l cc =>
    simp only [evOp] at he
    exact ofW rfl (makeSlice_sound S hfr0 (two l cc rfl).1 (two l cc rfl).2 (noOrc_spec he).1 hC)
  | slice t x lo hi mx =>
    simp only [evOp] at he
    obtain ⟨e1, e2, e3⟩ := quiet_spec he
    obtain ⟨u, r1, r2⟩ := slice_sound (g := g) S hsub (hop x (by simp [Op.operands])) (fun z hz => hop z (by cases hz; simp [Op.operands])) (fun z hz => hop z (by cases hz; simp [Op.operands])) e1 hC
    exact ofV rfl r1 r2 e2
  | fieldAddr s x k =>
    simp only [evOp] at he
    split at he
    · rename_i v' hb
      simp only [Option.some.injEq, Prod.mk.injEq] at he
      obtain ⟨rfl, rfl, rfl, rfl⟩ := he
      obtain ⟨u, r1, r2⟩ := fieldAddr_sound S hsub (one x rfl) hb
      exact ofV rfl r1 r2 rfl
    · exact pureCase he
  | field t x k =>
    simp only [evOp] at he
    split at he
    · rename_i v' hb
      simp only [Option.some.injEq, Prod.mk.injEq] at he
      obtain ⟨rfl, rfl, rfl, rfl⟩ := he
      obtain ⟨u, r1, r2⟩ := field_sound (one x rfl) hb
      exact ofV rfl r1 r2 rfl
    · exact pureCase he
  | indexAddr t x i =>
    simp only [evOp] at he
    obtain ⟨e1, e2, e3⟩ := quiet_spec he
    obtain ⟨u, r1, r2⟩ := indexAddr_sound S hsub (two x i rfl).1 (two x i rfl).2 e1 hC
    exact ofV rfl r1 r2 e2
  | index t x i =>
    simp only [evOp] at he
    obtain ⟨e1, e2, e3⟩ := quiet_spec he
    obtain ⟨u, r1, r2⟩ := index_sound (two x i rfl).1 (two x i rfl).2 e1 hC
    exact ofV rfl r1 r2 e2
  | lookup t m i ok =>
    simp only [evOp] at he
    obtain ⟨e1, e2, e3, e4⟩ := still_spec he
    obtain ⟨u, r1, r2⟩ := lookup_sound S hsub (two m i rfl).1 (two m i rfl).2 e1
    exact ofV rfl r1 r2 e2
  | insert t m k x =>
    simp only [evOp] at he
    obtain ⟨w', r1, r2⟩ := insert_sound S hsub (hop m (by simp [Op.operands])) (hop k (by simp [Op.operands])) (hop x (by simp [Op.operands])) (noOrc_spec he).1 hC
    exact .inr (.inl ⟨w', runU r1, r2⟩)
  | mapUpdate t m k x =>
    simp only [evOp] at he
    obtain ⟨w', r1, r2⟩ := insert_sound S hsub (hop m (by simp [Op.operands])) (hop k (by simp [Op.operands])) (hop x (by simp [Op.operands])) (noOrc_spec he).1 hC
    exact .inr (.inl ⟨w', runU r1, r2⟩)
  | typeAssert x xt asserted ok =>
    simp only [evOp] at he
    split at he
    · rename_i v' hb
      simp only [Option.some.injEq, Prod.mk.injEq] at he
      obtain ⟨rfl, rfl, rfl, rfl⟩ := he
      obtain ⟨u, r1, r2⟩ := assert_sound (xt := xt) (one x rfl) hb
      exact ofV rfl r1 r2 rfl
    · exact pureCase he
  | extract x i =>
    simp only [evOp] at he
    split at he
    · rename_i v' hb
      simp only [Option.some.injEq, Prod.mk.injEq] at he
      obtain ⟨rfl, rfl, rfl, rfl⟩ := he
      obtain ⟨u, r1, r2⟩ := extract_sound (P := P) (one x rfl) hb
      exact ofV rfl r1 r2 rfl
    · exact pureCase he
  | call cl =>
    obtain ⟨callee, args, argTypes⟩ := cl
    have hcase : (∃ b, callee = .builtin b) ∨ (∀ b, callee ≠ .builtin b) := by cases callee <;> simp
    rcases hcase with ⟨b, rfl⟩ | hnb
    · have hex : ∀ (s : Sem Value), (builtin b argTypes type (args.map fun | .const _ => true | _ => false) (args.map g)) = (do pure (Next.value (← s))) →
          execOp g ⟨dst, .call ⟨.builtin b, args, argTypes⟩, type, pos, after, guard⟩ = (do pure (Next.value (← s))) := fun s hs => hs
      have hopl : ∀ x ∈ args.toList, VR ρ h O w (f x) (g x) := fun x hx => hop x (by simp [Op.operands, Call.operands]; simpa using hx)
      cases b with
      | len =>
        simp only [evOp] at he
        split at he
        · rename_i x t ha ht
          have ha' : args = #[x] := by apply Array.ext'; simpa using ha
          have ht' : argTypes = #[t] := by apply Array.ext'; simpa using ht
          subst ha'; subst ht'
          split at he
          · rename_i v' k hb
            simp only [Option.some.injEq, Prod.mk.injEq] at he
            obtain ⟨rfl, rfl, rfl, rfl⟩ := he
            obtain ⟨u, r1, r2⟩ := len_sound (P := P) (ty := type) S hsub (hopl x (by simp)) hb
            exact ofV (s := Builtin.len_ #[t] type #[g x]) (hex _ (by simp [builtin])) r1 r2 rfl
          · exact pureCase he
        · cases he
      | cap =>
        simp only [evOp] at he
        split at he
        · rename_i x t ha ht
          have ha' : args = #[x] := by apply Array.ext'; simpa using ha
          have ht' : argTypes = #[t] := by apply Array.ext'; simpa using ht
          subst ha'; subst ht'
          split at he
          · rename_i v' hb
            simp only [Option.some.injEq, Prod.mk.injEq] at he
            obtain ⟨rfl, rfl, rfl, rfl⟩ := he
            obtain ⟨u, r1, r2⟩ := cap_sound (P := P) (ty := type) S hsub (hopl x (by simp)) hb
            exact ofV (s := Builtin.cap_ #[t] type #[g x]) (hex _ (by simp [builtin])) r1 r2 rfl
          · exact pureCase he
        · cases he
      | append =>
        simp only [evOp] at he
        split at he
        · rename_i s x t xt ha ht
          have ha' : args = #[s, x] := by apply Array.ext'; simpa using ha
          have ht' : argTypes = #[t, xt] := by apply Array.ext'; simpa using ht
          subst ha'; subst ht'
          have : ∃ bit, appendE P t xt (f s) (f x) hr fr bit = some (v, us, c) := by
            split at he
            · split at he
              · exact ⟨_, (noOrc_spec he).1⟩
              · cases he
            · exact ⟨_, (noOrc_spec he).1⟩
          obtain ⟨bit, hb⟩ := this
          exact ofW (s := Builtin.append_ #[t, xt] type #[g s, g x]) (hex _ (by simp [builtin])) (append_sound S hsub hfr0 (hopl s (by simp)) (hopl x (by simp)) hb hC)
        · cases he
      | copy =>
        simp only [evOp] at he
        split at he
        · rename_i s x t xt ha ht
          have ha' : args = #[s, x] := by apply Array.ext'; simpa using ha
          have ht' : argTypes = #[t, xt] := by apply Array.ext'; simpa using ht
          subst ha'; subst ht'
          exact ofW (s := Builtin.copy_ #[t, xt] type #[g s, g x]) (hex _ (by simp [builtin])) (copy_sound S hsub (hopl s (by simp)) (hopl x (by simp)) (noOrc_spec he).1)
        · cases he
      | _ => simp only [evOp] at he; exact pureCase he
    · have he0 : (bif externB P f ⟨callee, args, argTypes⟩ then noOrc orc (evPure P ⟨dst, .call ⟨callee, args, argTypes⟩, type, pos, after, guard⟩ f) else (match (generalizing := false) orc with
        | .call L args' H ret H' :: orc'' =>
          match (generalizing := false) calleeE P f ⟨callee, args, argTypes⟩ with
          | some (q, as) => noOrc orc'' (callE P G q as hr fr L args' H ret H')
          | none => none
        | _ => noOrc orc (evPure P ⟨dst, .call ⟨callee, args, argTypes⟩, type, pos, after, guard⟩ f))) = some (v, us, c, orc') := by
        cases callee with
        | builtin b => exact absurd rfl (hnb b)
        | value x => exact he
        | invoke x n => exact he
      cases hxt : externB P f ⟨callee, args, argTypes⟩ with
      | true => rw [hxt, cond_true] at he0; exact pureCase he0
      | false =>
      have he' := he0
      rw [hxt, cond_false] at he'
      split at he'
      · split at he'
        · rename_i q as hq
          obtain ⟨e1, e2⟩ := noOrc_spec he'
          obtain ⟨vals, hv, hrun⟩ := callee_sound type (fun x hx => hop x (by simpa [Op.operands] using hx)) hq
          obtain ⟨⟨fn, k1, k2, k3⟩, hcalls⟩ := call_sound S hsub hfr hv.1 hv.2 e1 hC
          exact .inr (.inr ⟨q, vals.toArray, hrun fn k1 k2 k3, hcalls⟩)
        · cases he'
      · exact pureCase he'
  | _ => simp only [evOp] at he; exact pureCase he

end
end Go.Ax
