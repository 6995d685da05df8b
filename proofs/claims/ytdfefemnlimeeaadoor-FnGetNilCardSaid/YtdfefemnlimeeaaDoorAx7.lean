/-
  An abstract machine for Go functions (part 7): operations that leave memory as it is.
-/
import Derived.Test.YtdfefemnlimeeaaDoorAx6
set_option linter.unusedVariables false
set_option linter.unusedSimpArgs false
namespace Go.Ax

section
variable {P : Program} {G : Env} {ρ : Lay} {h hr : Heap} {O : Nat → Prop} {w : World}

theorem add_none (b o k : Nat) : (⟨b, o, none⟩ : Addr).add k = ⟨b, o + k, none⟩ := by unfold Addr.add; split <;> simp_all

theorem isAggB_run {t : TypeId} {b : Bool} (hb : isAggB P t = some b) : (isAgg t).run P w = .ok b w := by
  unfold isAggB at hb
  split at hb
  · rename_i k hu; cases hb; simp [isAgg, run_underlying hu]
  · rename_i k e hu; cases hb; simp [isAgg, run_underlying hu]
  · rename_i d h1 h2 hu
    cases hb
    cases d <;> simp_all [isAgg, run_underlying hu]
  · cases hb

theorem loadVar_run {t : TypeId} {cs : List AV} {b o off : Nat} {v : AV} (hc : ∀ (j : Nat) c, cs[j]? = some c → ∃ u, w.cell? ⟨b, o + j, none⟩ = some u ∧ VR ρ h O w c u)
    (he : partE P t cs off = some v) : ∃ x, (loadVar t ⟨b, o + off, none⟩).run P w = .ok x w ∧ VR ρ h O w v x := by
  unfold partE at he
  split at he
  · rename_i ha
    split at he
    · rename_i n hn
      cases hb : Nat.beq ((cs.drop off).take n).length n with
      | false => rw [hb] at he; simp at he
      | true =>
        simp only [hb, cond_true, Option.some.injEq] at he
        subst he
        have hl : ((cs.drop off).take n).length = n := Nat.eq_of_beq_eq_true hb
        have hex : ∀ j, j < n → ∃ u c, w.cell? ⟨b, o + off + j, none⟩ = some u ∧ ((cs.drop off).take n)[j]? = some c ∧ VR ρ h O w c u := fun j hj => by
          have hlt : j < ((cs.drop off).take n).length := by omega
          have hg : ((cs.drop off).take n)[j]? = some ((cs.drop off).take n)[j] := List.getElem?_eq_getElem hlt
          have hg' : cs[off + j]? = some ((cs.drop off).take n)[j] := by
            rw [← hg, List.getElem?_take, if_pos hj, List.getElem?_drop]
          obtain ⟨u, h1, h2⟩ := hc _ _ hg'
          exact ⟨u, _, by rw [Nat.add_assoc]; exact h1, hg, h2⟩
        have hval : ∀ j, ∃ u, j < n → w.cell? ⟨b, o + off + j, none⟩ = some u := fun j => by
          by_cases hj : j < n
          · obtain ⟨u, _, h1, _⟩ := hex j hj; exact ⟨u, fun _ => h1⟩
          · exact ⟨undef, fun h => absurd h hj⟩
        let us : List Value := (List.range n).map fun j => (hval j).choose
        have hus : ∀ (j : Nat) u, us[j]? = some u → w.cell? ((⟨b, o + off, none⟩ : Addr).add j) = some u := fun j u hu => by
          have hj : j < n := by
            have := (List.getElem?_eq_some_iff.1 hu).1
            simpa [us] using this
          have : us[j]? = some (hval j).choose := by simp [us, hj]
          rw [this] at hu
          cases hu
          rw [add_none]
          exact (hval j).choose_spec hj
        have hlen : us.length = n := by simp [us]
        refine ⟨.agg us.toArray, ?_, .agg (by simp [hl, hlen]) fun j c u h1 h2 => ?_⟩
        · have := run_loadCells_list (P := P) w ⟨b, o + off, none⟩ us hus
          rw [hlen] at this
          simp only [loadVar, Sem.run_bind, isAggB_run ha, Result.andThen_ok, if_true, run_szOf hn, this, Sem.run_pure]
        · have hj : j < n := by
            have := (List.getElem?_eq_some_iff.1 h1).1
            omega
          obtain ⟨u', c', e1, e2, e3⟩ := hex j hj
          rw [e2] at h1
          cases h1
          have h2' : us[j]? = some u := by simpa using h2
          have := hus j u h2'
          rw [add_none, e1] at this
          cases this
          exact e3
    · cases he
  · rename_i ha
    rw [nth_eq] at he
    obtain ⟨u, h1, h2⟩ := hc _ _ he
    refine ⟨u, ?_, h2⟩
    simp [loadVar, isAggB_run ha, h1]
  · cases he

theorem row_cells (S : Sim G ρ h O w) {id : Nat} {r : Row} (hid : h id = some r) (hl : r.live = true) (hm : r.isMap = false) :
    ∃ cur, w.heap[(ρ id).1]? = some (.cells cur r.elem (0, 0)) ∧ (ρ id).2 + r.len ≤ cur.size ∧ ∀ (j : Nat) (a : AV), r.cs[j]? = some a → ∃ v, cur[(ρ id).2 + j]? = some v ∧ VR ρ h O w a v := by
  have := (rowR_cells hl hm).1 (S.rows id r hid)
  obtain ⟨cur, h1, h2, h3⟩ := this
  exact ⟨cur, h1, by rw [Row.cs_length] at h2; exact h2, h3⟩

theorem row_cell (S : Sim G ρ h O w) {id : Nat} {r : Row} (hid : h id = some r) (hl : r.live = true) (hm : r.isMap = false) :
    ∀ (j : Nat) c, r.cs[j]? = some c → ∃ u, w.cell? ⟨(ρ id).1, (ρ id).2 + j, none⟩ = some u ∧ VR ρ h O w c u := fun j c hj => by
  obtain ⟨cur, h1, h2, h3⟩ := row_cells S hid hl hm
  obtain ⟨v, hv, hR⟩ := h3 j c hj
  exact ⟨v, by simp [World.cell?, h1, hv], hR⟩

theorem VR_ptr {id off : Nat} {x : Value} {r : Row} (hv : VR ρ h O w (.ptr id off) x) (hid : h id = some r) (hl : r.live = true) :
    x = .pointer (some ⟨(ρ id).1, (ρ id).2 + off, none⟩) := by
  cases hv with
  | dr hd => cases hd
  | ptr h1 h2 h3 => rfl
  | ptrGone h1 h2 => rw [hid] at h1; cases h1; rw [hl] at h2; cases h2

theorem load_sound {t : TypeId} {a : AV} {x : Value} {v : AV} {c : List Prop} {ov : Option AV} (S : Sim G ρ h O w) (hsub : ∀ id r, hr id = some r → h id = some r)
    (ha : VR ρ h O w a x) (he : loadE P G t a hr ov = some (v, c)) (hC : AllP c) : ∃ y, (Instr.loadAt t x).run P w = .ok y w ∧ VR ρ h O w v y := by
  unfold loadE at he
  split at he
  · rename_i id off
    split at he
    · rename_i e sz cs hh
      have hid := hsub _ _ hh
      have hx := VR_ptr ha hid rfl
      subst hx
      have hcell := row_cell S hid rfl rfl
      split at he
      · rename_i ov'
        split at he
        · rename_i hag
          simp only [Option.some.injEq, Prod.mk.injEq] at he
          obtain ⟨rfl, rfl⟩ := he
          have hn := hC.1
          obtain ⟨y, h1, h2⟩ := loadVar_run (P := P) (t := t) (off := off) (v := ov') hcell (by unfold partE; simp only [hag]; exact hn)
          exact ⟨y, by simp [Instr.loadAt, Instr.sureAddr, h1], h2⟩
        · cases he
      · simp only [Option.map_eq_some_iff, Prod.mk.injEq] at he
        obtain ⟨v', hp, rfl, rfl⟩ := he
        obtain ⟨y, h1, h2⟩ := loadVar_run hcell hp
        exact ⟨y, by simp [Instr.loadAt, Instr.sureAddr, h1], h2⟩
    · rename_i e bs hh
      have hid := hsub _ _ hh
      have hx := VR_ptr ha hid rfl
      subst hx
      have hcell := row_cell S hid rfl rfl
      split at he
      · rename_i hag
        simp only [Option.some.injEq, Prod.mk.injEq] at he
        obtain ⟨rfl, rfl⟩ := he
        have hn : off < bs.length := hC.1
        obtain ⟨y, h1, h2⟩ := loadVar_run (P := P) (t := t) (off := off) (v := u8 (bs.getD off 0)) hcell (by
          unfold partE
          simp only [hag, nth_eq, Row.cs]
          simp [List.getD_eq_getElem?_getD, hn])
        exact ⟨y, by simp [Instr.loadAt, Instr.sureAddr, h1], h2⟩
      · cases he
    · cases he
  · rename_i cs off
    simp only [Option.map_eq_some_iff, Prod.mk.injEq] at he
    obtain ⟨v', hp, rfl, rfl⟩ := he
    cases ha with
    | dr hd =>
      cases hd with
      | @rp cs off b o val h1 h2 h3 =>
        obtain ⟨y, h1, h2⟩ := loadVar_run (ρ := ρ) (h := h) (O := O) (w := w) (b := b) (o := o) (fun j c hj => ⟨val j, h2 j c hj, .dr (h3 j c hj)⟩) hp
        exact ⟨y, by simp [Instr.loadAt, Instr.sureAddr, h1], h2⟩
  · rename_i g
    have hx := VR_lit ha
    subst hx
    split at he
    · rename_i cs hg
      simp only [Option.map_eq_some_iff, Prod.mk.injEq] at he
      obtain ⟨v', hp, rfl, rfl⟩ := he
      obtain ⟨_, hgl⟩ := S.glob g cs hg
      obtain ⟨y, h1, h2⟩ := loadVar_run (ρ := ρ) (h := h) (O := O) (w := w) (b := g) (o := 0) (fun j c hj => by
        obtain ⟨u, e1, e2⟩ := hgl j c hj
        exact ⟨u, by simpa using e1, .dr e2⟩) hp
      exact ⟨y, by simpa [Instr.loadAt, Instr.sureAddr] using h1, h2⟩
    · cases he
  · cases he

theorem liveAt_spec {id : Nat} (hl : liveAt hr id = true) : ∃ r, hr id = some r ∧ r.live = true ∧ r.isMap = false := by
  unfold liveAt at hl
  split at hl
  · rename_i h; exact ⟨_, h, rfl, rfl⟩
  · rename_i h; exact ⟨_, h, rfl, rfl⟩
  · cases hl

/-- What a slice of a live row is. -/
theorem VR_own {id off len : Nat} {cap : Option Nat} {x : Value} {r : Row} (hv : VR ρ h O w (.own id off len cap) x) (hid : h id = some r) (hl : r.live = true) :
    ∃ a c m, x = .slice (some a) len c ∧ off + len * r.sz ≤ r.len ∧ a.spot = none ∧ a.block = (ρ id).1 ∧ ((0 < len ∨ ∃ c', cap = some c' ∧ 0 < c') → a.off = (ρ id).2 + off) ∧ len ≤ c ∧ c ≤ 9223372036854775807 ∧
      blockSize w (ρ id).1 = some m ∧ a.off + c * r.sz ≤ m ∧ (∀ c', cap = some c' → c = c') := by
  cases hv with
  | dr hd => cases hd
  | own h1 h2 h3 h4 h5 h6 h7 h8 h9 h10 h11 h12 =>
    rw [hid] at h1
    cases h1
    exact ⟨_, _, _, rfl, h4, h5, h6, h7, h8, h9, h10, h11, h12⟩
  | ownGone h1 h2 => rw [hid] at h1; cases h1; rw [hl] at h2; cases h2

theorem VR_bts {bs : List UInt8} {x : Value} (hv : VR ρ h O w (.bts bs) x) :
    (x = .slice none 0 0 ∧ bs = []) ∨ ∃ a cap, x = .slice (some a) bs.length cap ∧ (0 < bs.length → a.spot = none) ∧ (0 < bs.length → O a.block) ∧ bs.length ≤ cap ∧ cap ≤ 9223372036854775807 ∧
      ∀ (i : Nat) (b : UInt8), bs[i]? = some b → w.cell? (a.add i) = some (.int .u8 b.toNat) := by
  cases hv with
  | dr hd =>
    cases hd with
    | bts h1 h2 h3 h4 h5 => exact .inr ⟨_, _, rfl, h1, h2, h3, h4, h5⟩
    | btsnil => exact .inl ⟨rfl, rfl⟩

theorem VR_ro {sz n : Nat} {get : Nat → List AV} {x : Value} (hv : VR ρ h O w (.ro sz n get) x) :
    (x = .slice none 0 0 ∧ n = 0) ∨ ∃ (a : Addr) (cap : Nat) (val : Nat → Nat → Value), x = .slice (some a) n cap ∧ (0 < n → a.spot = none) ∧ (0 < n → O a.block) ∧ n ≤ cap ∧ cap ≤ 9223372036854775807 ∧ (∀ i, i < n → (get i).length = sz) ∧
      (∀ i j c, i < n → (get i)[j]? = some c → w.cell? (a.add (i * sz + j)) = some (val i j)) ∧ ∀ i j c, i < n → (get i)[j]? = some c → DR O w c (val i j) := by
  cases hv with
  | dr hd =>
    cases hd with
    | ro val h1 h2 h3 h4 h5 h6 h7 => exact .inr ⟨_, _, val, rfl, h1, h2, h3, h4, h5, h6, h7⟩
    | ronil => exact .inl ⟨rfl, rfl⟩

theorem VR_ifc {t : TypeId} {c : AV} {x : Value} (hv : VR ρ h O w (.ifc t c) x) : ∃ u, x = .iface t u ∧ VR ρ h O w c u := by
  cases hv with
  | dr hd => cases hd with | ifc h1 => exact ⟨_, rfl, .dr h1⟩
  | ifc h1 => exact ⟨_, rfl, h1⟩

theorem VR_clo {fn : Fn} {fs cp : List AV} {x : Value} (hv : VR ρ h O w (.clo fn fs cp) x) : ∃ vf vc, x = .func fn vf vc ∧ fs.length = vf.size ∧ cp.length = vc.size ∧
    (∀ (j : Nat) c v, fs[j]? = some c → vf[j]? = some v → VR ρ h O w c v) ∧ (∀ (j : Nat) c v, cp[j]? = some c → vc[j]? = some v → VR ρ h O w c v) := by
  cases hv with
  | dr hd => cases hd with | clo h1 h2 h3 h4 => exact ⟨_, _, rfl, h1, h2, fun j c v a b => .dr (h3 j c v a b), fun j c v a b => .dr (h4 j c v a b)⟩
  | clo h1 h2 h3 h4 => exact ⟨_, _, rfl, h1, h2, h3, h4⟩

theorem VR_tup {cs : List AV} {x : Value} (hv : VR ρ h O w (.tup cs) x) : ∃ vs : Array Value, x = .tuple vs ∧ cs.length = vs.size ∧ ∀ (j : Nat) c v, cs[j]? = some c → vs[j]? = some v → VR ρ h O w c v := by
  cases hv with
  | dr hd => cases hd
  | tup h1 h2 => exact ⟨_, rfl, h1, h2⟩

theorem VR_agg {cs : List AV} {x : Value} (hv : VR ρ h O w (.agg cs) x) : ∃ vs : Array Value, x = .agg vs ∧ cs.length = vs.size ∧ ∀ (j : Nat) c v, cs[j]? = some c → vs[j]? = some v → VR ρ h O w c v := by
  cases hv with
  | dr hd => cases hd with | agg h1 h2 => exact ⟨_, rfl, h1, fun j c v a b => .dr (h2 j c v a b)⟩
  | agg h1 h2 => exact ⟨_, rfl, h1, h2⟩

/-! ### comparisons with nil, division, shifts -/
theorem equal_ptr_nil {t e : TypeId} (hu : P.underlying t = some (.pointer e)) (a : Addr) : (Op.equal t (.pointer (some a)) (.pointer none)).run P w = .ok false w := by
  show (Op.equalIn (9999 + 1) t _ _).run P w = _
  rw [Op.equalIn]
  simp [run_underlying hu]
theorem equal_ifc_nil {t : TypeId} {ms : Array (String × TypeId)} (hu : P.underlying t = some (.interface ms)) (k : TypeId) (u : Value) : (Op.equal t (.iface k u) .nilIface).run P w = .ok false w := by
  show (Op.equalIn (9999 + 1) t _ _).run P w = _
  rw [Op.equalIn]
  simp [run_underlying hu]
theorem equal_slice_nil {t e : TypeId} (hu : P.underlying t = some (.slice e)) (a : Addr) (n c : Nat) : (Op.equal t (.slice (some a) n c) (.slice none 0 0)).run P w = .ok false w := by
  show (Op.equalIn (9999 + 1) t _ _).run P w = _
  rw [Op.equalIn]
  simp [run_underlying hu]
theorem equal_func_nil {t : TypeId} {ps rs : Array TypeId} {b : Bool} (hu : P.underlying t = some (.func ps rs b)) (fn : Fn) (vf vc : Array Value) : (Op.equal t (.func fn vf vc) .nilFunc).run P w = .ok false w := by
  show (Op.equalIn (9999 + 1) t _ _).run P w = _
  rw [Op.equalIn]
  simp [run_underlying hu]
theorem eql_run {t : TypeId} {x y : Value} {xo yo : Operand} {r : Bool} (hb : binOp .eql t x y = (do pure (.bool (← Op.equal t x y)))) (hg : eqGuard .eql t xo yo x y = pure ())
    (he : (Op.equal t x y).run P w = .ok r w) : (do eqGuard .eql t xo yo x y; binOp .eql t x y : Sem Value).run P w = .ok (.bool r) w := by
  rw [hb, hg]
  simp [he]
theorem neq_run {t : TypeId} {x y : Value} {xo yo : Operand} {r : Bool} (hb : binOp .neq t x y = (do pure (.bool (!(← Op.equal t x y))))) (hg : eqGuard .neq t xo yo x y = pure ())
    (he : (Op.equal t x y).run P w = .ok r w) : (do eqGuard .neq t xo yo x y; binOp .neq t x y : Sem Value).run P w = .ok (.bool (!r)) w := by
  rw [hb, hg]
  simp [he]
theorem bin_sound {op : BinOp} {t : TypeId} {a b : AV} {x y : Value} {xo yo : Operand} {v : AV} {c : List Prop} (S : Sim G ρ h O w) (hsub : ∀ id r, hr id = some r → h id = some r)
    (ha : VR ρ h O w a x) (hb : VR ρ h O w b y) (he : binE P op t a b hr = some (v, c)) (hC : AllP c) :
    ∃ z, (do eqGuard op t xo yo x y; binOp op t x y : Sem Value).run P w = .ok z w ∧ VR ρ h O w v z := by
  unfold binE at he
  split at he
  · rename_i k a' k' b'
    simp only [Option.some.injEq, Prod.mk.injEq] at he
    obtain ⟨rfl, rfl⟩ := he
    have hn : 0 ≤ b' := hC.1
    have h1 := VR_lit ha
    have h2 := VR_lit hb
    subst h1; subst h2
    refine ⟨_, ?_, VR.ofLit _⟩
    simp [eqGuard, binOp, Op.shift, show ¬ b' < 0 by omega]
  · rename_i k a' k' b'
    simp only [Option.some.injEq, Prod.mk.injEq] at he
    obtain ⟨rfl, rfl⟩ := he
    have hn : 0 ≤ b' := hC.1
    have h1 := VR_lit ha
    have h2 := VR_lit hb
    subst h1; subst h2
    refine ⟨_, ?_, VR.ofLit _⟩
    simp [eqGuard, binOp, Op.shift, show ¬ b' < 0 by omega]
  · rename_i k a' k' b'
    split at he
    · rename_i hk
      subst hk
      simp only [Option.some.injEq, Prod.mk.injEq] at he
      obtain ⟨rfl, rfl⟩ := he
      have hn : b' ≠ 0 := hC.1
      have h1 := VR_lit ha
      have h2 := VR_lit hb
      subst h1; subst h2
      refine ⟨_, ?_, VR.ofLit _⟩
      simp [eqGuard, binOp, Op.intDiv, hn]
    · cases he
  · rename_i k a' k' b'
    split at he
    · rename_i hk
      subst hk
      simp only [Option.some.injEq, Prod.mk.injEq] at he
      obtain ⟨rfl, rfl⟩ := he
      have hn : b' ≠ 0 := hC.1
      have h1 := VR_lit ha
      have h2 := VR_lit hb
      subst h1; subst h2
      refine ⟨_, ?_, VR.ofLit _⟩
      simp [eqGuard, binOp, Op.intDiv, hn]
    · cases he
  · rename_i i o
    split at he
    · rename_i e hu
      cases hli : liveAt hr i with
      | false => simp [hli] at he
      | true =>
        simp only [hli, cond_true, Option.some.injEq, Prod.mk.injEq] at he
        obtain ⟨rfl, rfl⟩ := he
        obtain ⟨r, h1, h2, h3⟩ := liveAt_spec hli
        have hx := VR_ptr ha (hsub _ _ h1) h2
        have hy := VR_lit hb
        subst hx; subst hy
        refine ⟨_, ?_, VR.ofLit _⟩
        exact eql_run rfl rfl (equal_ptr_nil hu _)
    · cases he
  · rename_i i o
    split at he
    · rename_i e hu
      cases hli : liveAt hr i with
      | false => simp [hli] at he
      | true =>
        simp only [hli, cond_true, Option.some.injEq, Prod.mk.injEq] at he
        obtain ⟨rfl, rfl⟩ := he
        obtain ⟨r, h1, h2, h3⟩ := liveAt_spec hli
        have hx := VR_ptr ha (hsub _ _ h1) h2
        have hy := VR_lit hb
        subst hx; subst hy
        refine ⟨_, ?_, VR.ofLit _⟩
        exact neq_run rfl rfl (equal_ptr_nil hu _)
    · cases he
  · rename_i i o
    split at he
    · rename_i e hu
      simp only [Option.some.injEq, Prod.mk.injEq] at he
      obtain ⟨rfl, rfl⟩ := he
      obtain ⟨u, hx, _⟩ := VR_ifc ha
      have hy := VR_lit hb
      subst hx; subst hy
      refine ⟨_, ?_, VR.ofLit _⟩
      exact eql_run rfl rfl (equal_ifc_nil hu _ _)
    · cases he
  · rename_i i o
    split at he
    · rename_i e hu
      simp only [Option.some.injEq, Prod.mk.injEq] at he
      obtain ⟨rfl, rfl⟩ := he
      obtain ⟨u, hx, _⟩ := VR_ifc ha
      have hy := VR_lit hb
      subst hx; subst hy
      refine ⟨_, ?_, VR.ofLit _⟩
      exact neq_run rfl rfl (equal_ifc_nil hu _ _)
    · cases he
  · rename_i i of ln cp
    split at he
    · rename_i e hu
      cases hli : liveAt hr i with
      | false => simp [hli] at he
      | true =>
        simp only [hli, cond_true, Option.some.injEq, Prod.mk.injEq] at he
        obtain ⟨rfl, rfl⟩ := he
        obtain ⟨r, h1, h2, h3⟩ := liveAt_spec hli
        obtain ⟨a', c', m, hx, _⟩ := VR_own ha (hsub _ _ h1) h2
        have hy := VR_lit hb
        subst hx; subst hy
        refine ⟨_, ?_, VR.ofLit _⟩
        exact eql_run rfl rfl (equal_slice_nil hu _ _ _)
    · cases he
  · rename_i i of ln cp
    split at he
    · rename_i e hu
      cases hli : liveAt hr i with
      | false => simp [hli] at he
      | true =>
        simp only [hli, cond_true, Option.some.injEq, Prod.mk.injEq] at he
        obtain ⟨rfl, rfl⟩ := he
        obtain ⟨r, h1, h2, h3⟩ := liveAt_spec hli
        obtain ⟨a', c', m, hx, _⟩ := VR_own ha (hsub _ _ h1) h2
        have hy := VR_lit hb
        subst hx; subst hy
        refine ⟨_, ?_, VR.ofLit _⟩
        exact neq_run rfl rfl (equal_slice_nil hu _ _ _)
    · cases he
  · split at he
    · rename_i e hu
      simp only [Option.some.injEq, Prod.mk.injEq] at he
      obtain ⟨rfl, rfl⟩ := he
      obtain ⟨vf, vc, hx, _⟩ := VR_clo ha
      have hy := VR_lit hb
      subst hx; subst hy
      refine ⟨_, ?_, VR.ofLit _⟩
      exact eql_run rfl rfl (equal_func_nil hu _ _ _)
    · cases he
  · split at he
    · rename_i e hu
      simp only [Option.some.injEq, Prod.mk.injEq] at he
      obtain ⟨rfl, rfl⟩ := he
      obtain ⟨vf, vc, hx, _⟩ := VR_clo ha
      have hy := VR_lit hb
      subst hx; subst hy
      refine ⟨_, ?_, VR.ofLit _⟩
      exact neq_run rfl rfl (equal_func_nil hu _ _ _)
    · cases he
  · cases he
end
end Go.Ax
