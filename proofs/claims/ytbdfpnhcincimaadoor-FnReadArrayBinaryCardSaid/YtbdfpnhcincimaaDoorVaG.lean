/-
  Values of AMQP, written in chosen forms: the elements of an array, all of them.
-/
import Derived.Test.YtbdfpnhcincimaaDoorVaF
set_option linter.unusedVariables false
set_option linter.unusedSimpArgs false
set_option maxRecDepth 100000
set_option maxHeartbeats 1000000
namespace Go.Ax
open Go.Proofs

theorem Le_take (x : List UInt8) : Le (.bts ((x.drop 0).take x.length)) (.bts x) := by rw [List.drop_zero, List.take_length]; exact Le.refl _

def leSl : List (Nat × AV) → List (Nat × AV) → Prop
  | [], [] => True
  | (t, a) :: l, (u, b) :: m => t = u ∧ Le a b ∧ leSl l m
  | _, _ => False

theorem leSl_mem : ∀ {l m : List (Nat × AV)}, leSl l m → ∀ t b, (t, b) ∈ m → ∃ a, (t, a) ∈ l ∧ Le a b
  | [], [], _, t, b, h => by cases h
  | (u, a) :: l, (v, c) :: m, hl, t, b, h => by
    obtain ⟨rfl, h2, h3⟩ := hl
    rcases List.mem_cons.1 h with h | h
    · simp only [Prod.mk.injEq] at h
      obtain ⟨rfl, rfl⟩ := h
      exact ⟨a, by simp, h2⟩
    · obtain ⟨a', g1, g2⟩ := leSl_mem h3 t b h
      exact ⟨a', List.mem_cons_of_mem _ g1, g2⟩
  | [], _ :: _, h, _, _, _ => h.elim
  | _ :: _, [], h, _, _, _ => h.elim

/-- The slots that come out, told less of. -/
theorem CodeC.leOut {P : Program} {G : Env} {n : Nat} {c : Code} {vals vals' vals2 : List (Nat × AV)} {H H' : List Row} {ex : AExit} (h : CodeC P G n c vals H ex vals' H') (hl : leSl vals' vals2) : CodeC P G n c vals H ex vals2 H' := by
  intro O ρ a w S hn hv
  refine wp_mono (h O ρ a w S hn hv) fun e a' w' ⟨ρ', O', q1, q2, q3, q4, q5, q6⟩ => ⟨ρ', O', q1, q2, q3, fun t b hm => ?_, q5, q6⟩
  obtain ⟨a0, g1, g2⟩ := leSl_mem hl t b hm
  exact g2 _ _ _ _ _ (q4 t a0 g1)

def catM (g : Nat → List UInt8) : Nat → Nat → List UInt8
  | _, 0 => []
  | i, m + 1 => g i ++ catM g (i + 1) m

theorem catM_congr {g g' : Nat → List UInt8} : ∀ (m i : Nat), (∀ j, i ≤ j → j < i + m → g j = g' j) → catM g i m = catM g' i m
  | 0, _, _ => rfl
  | m + 1, i, h => by simp only [catM]; rw [h i (by omega) (by omega), catM_congr m (i + 1) (fun j h1 h2 => h j (by omega) (by omega))]

/-- A value among others, its descriptor taken away. -/
def nodesc (p : ValT) : List AV := [.lit (.int .i64 p.kind), .lit (.int .u64 p.num), .lit (.string p.text), .ro 6 p.n (fun j => p.sub false j), .lit (.int .i64 p.kof), .lit (.slice none 0 0)]

theorem kelA (n : Nat) (f : Nat → ValT) (sh : Bool) (cs cc r c : Int) (hn : n ≤ 1000000) (B : Nat → Nat) (Q : Nat → Int → List UInt8 → Prop) (full : Prop)
    (hp : ∀ i, i < n → ∀ st : Int, ∃ (ps : List (Int × List UInt8)) (st' : Int), ps.length ≤ 1000 ∧ (∀ q ∈ ps, Q i q.1 q.2 ∧ q.2.length ≤ B i) ∧ (full → ∃ q ∈ ps, q.1 = c) ∧
      ACalls Tryd.prog noG 56 [.ptr 0 0, .agg (nodesc (f i))] [FR st sh] (pL ps) [FR st' sh]) :
    ∀ (m i : Nat), n - i = m → i ≤ n → ∀ (st : Int) (all : Bool) (D : List UInt8), D.length + sumN B i m ≤ 70368744177664 →
      ∃ (st' : Int) (all' : Bool) (X : List UInt8), LoopK Tryd.prog noG 1 75 (loopAt Tryd.f111 1) [(0, .ptr 0 0), (2, .ro 6 n (fun i => vcl (f i))), (8, .lit (.slice none 0 0)), (10, .lit (.int .i64 c)), (11, dAV 1 D), (12, .lit (.bool all)), (25, .ro 1 2 (fun i => ([.lit (.int .i64 cs), .lit (.int .i64 cc)].drop (0 + i * 1)).take 1)), (26, .lit (.int .i64 2)), (27, .lit (.int .i64 r)), (33, .ro 6 n (fun i => vcl (f i))), (34, .lit (.int .i64 n)), (35, .lit (.int .i64 i))] ([FR st sh] ++ dRow D) (.exit 2) [(0, .ptr 0 0), (2, .ro 6 n (fun i => vcl (f i))), (8, .lit (.slice none 0 0)), (10, .lit (.int .i64 c)), (11, dAV 1 (D ++ X)), (12, .lit (.bool all')), (25, .ro 1 2 (fun i => ([.lit (.int .i64 cs), .lit (.int .i64 cc)].drop (0 + i * 1)).take 1)), (26, .lit (.int .i64 2)), (27, .lit (.int .i64 r))] ([FR st' sh] ++ dRow (D ++ X)) ∧ X.length ≤ sumN B i m ∧
        (all' = true → ∃ ds, X = catM ds i m ∧ ∀ j, i ≤ j → j < i + m → Q j c (ds j)) ∧ (all = true → full → all' = true) ∧ (all = false → all' = false)
  | 0, i, hm, hi, st, all, D, hD => by
    have hd : decide ((i : Int) < n) = false := by simp; omega
    refine ⟨st, all, [], ?_, by simp, fun _ => ⟨fun _ => [], rfl, fun j h1 h2 => absurd h2 (by omega)⟩, fun h _ => h, fun h => h⟩
    rw [List.append_nil]
    cases D with
    | nil => exact LoopK.exit (ekXnilA n f st sh cs cc r c all i [] ⟨hd, trivial⟩) (by simp)
    | cons b D => exact LoopK.exit (ekXownA n f st sh cs cc r c all i (b :: D) ⟨hd, trivial⟩) (by simp)
  | m + 1, i, hm, hi, st, all, D, hD => by
    have hlt : i < n := by omega
    have hd : decide ((i : Int) < n) = true := by simp; omega
    have hb : (0 : Int) ≤ i ∧ (i : Int) < n := by omega
    have w := wrapI i (by omega)
    have e2 : sumN B i (m + 1) = B i + sumN B (i + 1) m := rfl
    rw [e2] at hD
    obtain ⟨ps, st1, hlen, hq, hfull, hcall⟩ := hp i hlt st
    have inner := innA n f st1 sh cs cc r c all i ps (by omega) (B i) (fun q h => (hq q h).2) (by omega) ps.length 0 rfl (Nat.zero_le _) false D (by simp; omega)
    rw [List.drop_zero] at inner
    have hX : (pk c false ps).2.length ≤ B i ∧ ((pk c false ps).1 = true → Q i c (pk c false ps).2) ∧ (full → (pk c false ps).1 = true) := by
      rcases pk_false c ps with ⟨h1, h2⟩ | ⟨q, h1, h2, h3⟩
      · rw [h1]; exact ⟨by simp, by simp, fun hf => by obtain ⟨q, g1, g2⟩ := hfull hf; exact absurd g2 (h2 q g1)⟩
      · rw [h3]; exact ⟨(hq q h1).2, fun _ => by subst h2; exact (hq q h1).1, fun _ => rfl⟩
    obtain ⟨hX1, hX2, hX3⟩ := hX
    generalize hfd : (pk c false ps).1 = fd at inner hX2 hX3
    generalize hXe : (pk c false ps).2 = X0 at inner hX1 hX2
    have hle : leAll [.ptr 0 0, .agg [.lit (.int .i64 (f (i : Int).toNat).kind), .lit (.int .u64 (f (i : Int).toNat).num), .lit (.string (f (i : Int).toNat).text), .ro 6 (f (i : Int).toNat).n fun j => (f (i : Int).toNat).sub false j, .lit (.int .i64 (f (i : Int).toNat).kof), .lit (.slice none 0 0)]] [.ptr 0 0, .agg (nodesc (f i))] := by
      simp only [Int.toNat_natCast]; exact leAll_refl _
    have hD2 : (D ++ X0).length + sumN B (i + 1) m ≤ 70368744177664 := by rw [List.length_append]; omega
    obtain ⟨st', all', X, h1, h2, h3, h4, h5⟩ := kelA n f sh cs cc r c hn B Q full hp m (i + 1) (by omega) (by omega) st1 (bif all then fd else false) (D ++ X0) hD2
    refine ⟨st', all', X0 ++ X, ?_, by rw [List.length_append, e2]; omega, fun ha => ?_, fun ha hf => h4 (by rw [ha]; exact hX3 hf) hf, fun ha => h5 (by rw [ha]; rfl)⟩
    · rw [← List.append_assoc]
      cases D with
      | nil =>
        rw [List.nil_append] at h1 inner ⊢
        cases X0 with
        | nil =>
          have stp := ekNNA n f st sh cs cc r c all st1 i ps.length (fun i => (ps.getD i (0, [])).1) (fun i => (ps.getD i (0, [])).2) fd [] [] ⟨LoopK.code [some 0] inner rfl rfl, hcall, hle, hb, hd, trivial⟩
          rw [w] at stp
          exact LoopK.step [some 0] stp rfl h1
        | cons b X0 =>
          have stp := ekNOA n f st sh cs cc r c all st1 i ps.length (fun i => (ps.getD i (0, [])).1) (fun i => (ps.getD i (0, [])).2) fd [] (b :: X0) ⟨LoopK.code [some 0, some 1] inner rfl rfl, hcall, hle, hb, hd, trivial⟩
          rw [w] at stp
          exact LoopK.step [some 0, some 1] stp rfl h1
      | cons b D =>
        have stp := ekOOA n f st sh cs cc r c all st1 i ps.length (fun i => (ps.getD i (0, [])).1) (fun i => (ps.getD i (0, [])).2) fd (b :: D) (b :: D ++ X0) ⟨LoopK.code [some 0, none, some 1] inner rfl rfl, hcall, hle, hb, hd, trivial⟩
        rw [w] at stp
        exact LoopK.step [some 0, some 2] stp rfl h1
    · obtain ⟨ds, g1, g2⟩ := h3 ha
      have hall : (bif all then fd else false) = true := by
        cases hb2 : (bif all then fd else false) with
        | true => rfl
        | false => rw [h5 hb2] at ha; cases ha
      have hfd2 : fd = true := by cases all <;> simp_all
      let ds' : Nat → List UInt8 := fun j => if j = i then X0 else ds j
      have e0 : ds' i = X0 := by simp [ds']
      refine ⟨ds', ?_, fun j q1 q2 => ?_⟩
      · have hg : catM ds' (i + 1) m = catM ds (i + 1) m := catM_congr m (i + 1) (fun j q1 q2 => by simp only [ds']; rw [if_neg (by omega)])
        simp only [catM]
        rw [e0, g1, hg]
      · by_cases hj : j = i
        · subst hj; rw [e0]; exact hX2 hfd2
        · simp only [ds']; rw [if_neg hj]; exact g2 j (by omega) (by omega)

/-- The loop, its bytes told by value. -/
theorem kelCA (n : Nat) (f : Nat → ValT) (sh : Bool) (cs cc r c : Int) (hn : n ≤ 1000000) (B : Nat → Nat) (Q : Nat → Int → List UInt8 → Prop) (full : Prop)
    (hp : ∀ i, i < n → ∀ st : Int, ∃ (ps : List (Int × List UInt8)) (st' : Int), ps.length ≤ 1000 ∧ (∀ q ∈ ps, Q i q.1 q.2 ∧ q.2.length ≤ B i) ∧ (full → ∃ q ∈ ps, q.1 = c) ∧
      ACalls Tryd.prog noG 56 [.ptr 0 0, .agg (nodesc (f i))] [FR st sh] (pL ps) [FR st' sh]) (st : Int) (all : Bool) (hB : sumN B 0 n ≤ 70368744177664) :
    ∃ (st' : Int) (all' : Bool) (X : List UInt8), CodeC Tryd.prog noG 75 (.loop (loopAt Tryd.f111 1)) [(0, .ptr 0 0), (2, .ro 6 n (fun i => vcl (f i))), (8, .lit (.slice none 0 0)), (10, .lit (.int .i64 c)), (11, .lit (.slice none 0 0)), (12, .lit (.bool all)), (25, .ro 1 2 (fun i => ([.lit (.int .i64 cs), .lit (.int .i64 cc)].drop (0 + i * 1)).take 1)), (26, .lit (.int .i64 2)), (27, .lit (.int .i64 r)), (33, .ro 6 n (fun i => vcl (f i))), (34, .lit (.int .i64 n)), (35, .lit (.int .i64 (0 : Nat)))] [FR st sh] (.exit 2) [(0, .ptr 0 0), (2, .ro 6 n (fun i => vcl (f i))), (8, .lit (.slice none 0 0)), (10, .lit (.int .i64 c)), (11, .bts X), (12, .lit (.bool all')), (25, .ro 1 2 (fun i => ([.lit (.int .i64 cs), .lit (.int .i64 cc)].drop (0 + i * 1)).take 1)), (26, .lit (.int .i64 2)), (27, .lit (.int .i64 r))] [FR st' sh] ∧ X.length ≤ sumN B 0 n ∧
        (all' = true → ∃ ds, X = catM ds 0 n ∧ ∀ j, j < n → Q j c (ds j)) ∧ (all = true → full → all' = true) ∧ (all = false → all' = false) := by
  obtain ⟨st', all', X, h1, h2, h3, h4, h5⟩ := kelA n f sh cs cc r c hn B Q full hp n 0 rfl (Nat.zero_le _) st all [] (by simpa using hB)
  refine ⟨st', all', X, ?_, h2, fun h => by obtain ⟨ds, g1, g2⟩ := h3 h; exact ⟨ds, g1, fun j hj => g2 j (Nat.zero_le _) (by omega)⟩, h4, h5⟩
  rw [List.nil_append] at h1
  cases X with
  | nil =>
    exact (LoopK.code [some 0] h1 rfl rfl).leOut ⟨rfl, Le.refl _, rfl, Le.refl _, rfl, Le.refl _, rfl, Le.refl _, rfl, Le_nil, rfl, Le.refl _, rfl, Le.refl _, rfl, Le.refl _, rfl, Le.refl _, trivial⟩
  | cons b X =>
    have a := ((LoopK.code [some 0, some 1] h1 rfl rfl).freezeOut 1 rfl rfl).only [0] rfl
    exact a.leOut ⟨rfl, Le.refl _, rfl, Le.refl _, rfl, Le.refl _, rfl, Le.refl _, rfl, Le_take (b :: X), rfl, Le.refl _, rfl, Le.refl _, rfl, Le.refl _, rfl, Le.refl _, trivial⟩

theorem kelB (n : Nat) (f : Nat → ValT) (sh : Bool) (cs cc r c : Int) (c1 : Int) (D1 : List UInt8) (hn : n ≤ 1000000) (B : Nat → Nat) (Q : Nat → Int → List UInt8 → Prop) (full : Prop)
    (hp : ∀ i, i < n → ∀ st : Int, ∃ (ps : List (Int × List UInt8)) (st' : Int), ps.length ≤ 1000 ∧ (∀ q ∈ ps, Q i q.1 q.2 ∧ q.2.length ≤ B i) ∧ (full → ∃ q ∈ ps, q.1 = c) ∧
      ACalls Tryd.prog noG 56 [.ptr 0 0, .agg (nodesc (f i))] [FR st sh] (pL ps) [FR st' sh]) :
    ∀ (m i : Nat), n - i = m → i ≤ n → ∀ (st : Int) (all : Bool) (D : List UInt8), D.length + sumN B i m ≤ 70368744177664 →
      ∃ (st' : Int) (all' : Bool) (X : List UInt8), LoopK Tryd.prog noG 2 75 (loopAt Tryd.f111 1) [(0, .ptr 0 0), (2, .ro 6 n (fun i => vcl (f i))), (8, .own 1 0 1 none), (10, .lit (.int .i64 c)), (11, dAV 2 D), (12, .lit (.bool all)), (25, .ro 1 2 (fun i => ([.lit (.int .i64 cs), .lit (.int .i64 cc)].drop (0 + i * 1)).take 1)), (26, .lit (.int .i64 2)), (27, .lit (.int .i64 r)), (33, .ro 6 n (fun i => vcl (f i))), (34, .lit (.int .i64 n)), (35, .lit (.int .i64 i))] ([FR st sh, .cells 106 2 [.lit (.int .i64 c1), .bts D1]] ++ dRow D) (.exit 2) [(0, .ptr 0 0), (2, .ro 6 n (fun i => vcl (f i))), (8, .own 1 0 1 none), (10, .lit (.int .i64 c)), (11, dAV 2 (D ++ X)), (12, .lit (.bool all')), (25, .ro 1 2 (fun i => ([.lit (.int .i64 cs), .lit (.int .i64 cc)].drop (0 + i * 1)).take 1)), (26, .lit (.int .i64 2)), (27, .lit (.int .i64 r))] ([FR st' sh, .cells 106 2 [.lit (.int .i64 c1), .bts D1]] ++ dRow (D ++ X)) ∧ X.length ≤ sumN B i m ∧
        (all' = true → ∃ ds, X = catM ds i m ∧ ∀ j, i ≤ j → j < i + m → Q j c (ds j)) ∧ (all = true → full → all' = true) ∧ (all = false → all' = false)
  | 0, i, hm, hi, st, all, D, hD => by
    have hd : decide ((i : Int) < n) = false := by simp; omega
    refine ⟨st, all, [], ?_, by simp, fun _ => ⟨fun _ => [], rfl, fun j h1 h2 => absurd h2 (by omega)⟩, fun h _ => h, fun h => h⟩
    rw [List.append_nil]
    cases D with
    | nil => exact LoopK.exit (ekXnilB n f st sh cs cc r c all i [] c1 D1 ⟨hd, trivial⟩) (by simp)
    | cons b D => exact LoopK.exit (ekXownB n f st sh cs cc r c all i (b :: D) c1 D1 ⟨hd, trivial⟩) (by simp)
  | m + 1, i, hm, hi, st, all, D, hD => by
    have hlt : i < n := by omega
    have hd : decide ((i : Int) < n) = true := by simp; omega
    have hb : (0 : Int) ≤ i ∧ (i : Int) < n := by omega
    have w := wrapI i (by omega)
    have e2 : sumN B i (m + 1) = B i + sumN B (i + 1) m := rfl
    rw [e2] at hD
    obtain ⟨ps, st1, hlen, hq, hfull, hcall⟩ := hp i hlt st
    have inner := innB n f st1 sh cs cc r c all i c1 D1 ps (by omega) (B i) (fun q h => (hq q h).2) (by omega) ps.length 0 rfl (Nat.zero_le _) false D (by simp; omega)
    rw [List.drop_zero] at inner
    have hX : (pk c false ps).2.length ≤ B i ∧ ((pk c false ps).1 = true → Q i c (pk c false ps).2) ∧ (full → (pk c false ps).1 = true) := by
      rcases pk_false c ps with ⟨h1, h2⟩ | ⟨q, h1, h2, h3⟩
      · rw [h1]; exact ⟨by simp, by simp, fun hf => by obtain ⟨q, g1, g2⟩ := hfull hf; exact absurd g2 (h2 q g1)⟩
      · rw [h3]; exact ⟨(hq q h1).2, fun _ => by subst h2; exact (hq q h1).1, fun _ => rfl⟩
    obtain ⟨hX1, hX2, hX3⟩ := hX
    generalize hfd : (pk c false ps).1 = fd at inner hX2 hX3
    generalize hXe : (pk c false ps).2 = X0 at inner hX1 hX2
    have hle : leAll [.ptr 0 0, .agg [.lit (.int .i64 (f (i : Int).toNat).kind), .lit (.int .u64 (f (i : Int).toNat).num), .lit (.string (f (i : Int).toNat).text), .ro 6 (f (i : Int).toNat).n fun j => (f (i : Int).toNat).sub false j, .lit (.int .i64 (f (i : Int).toNat).kof), .lit (.slice none 0 0)]] [.ptr 0 0, .agg (nodesc (f i))] := by
      simp only [Int.toNat_natCast]; exact leAll_refl _
    have hD2 : (D ++ X0).length + sumN B (i + 1) m ≤ 70368744177664 := by rw [List.length_append]; omega
    obtain ⟨st', all', X, h1, h2, h3, h4, h5⟩ := kelB n f sh cs cc r c c1 D1 hn B Q full hp m (i + 1) (by omega) (by omega) st1 (bif all then fd else false) (D ++ X0) hD2
    refine ⟨st', all', X0 ++ X, ?_, by rw [List.length_append, e2]; omega, fun ha => ?_, fun ha hf => h4 (by rw [ha]; exact hX3 hf) hf, fun ha => h5 (by rw [ha]; rfl)⟩
    · rw [← List.append_assoc]
      cases D with
      | nil =>
        rw [List.nil_append] at h1 inner ⊢
        cases X0 with
        | nil =>
          have stp := ekNNB n f st sh cs cc r c all st1 i ps.length (fun i => (ps.getD i (0, [])).1) (fun i => (ps.getD i (0, [])).2) fd [] [] c1 D1 ⟨LoopK.code [some 0, some 1] inner rfl rfl, hcall, hle, hb, hd, trivial⟩
          rw [w] at stp
          exact LoopK.step [some 0, some 1] stp rfl h1
        | cons b X0 =>
          have stp := ekNOB n f st sh cs cc r c all st1 i ps.length (fun i => (ps.getD i (0, [])).1) (fun i => (ps.getD i (0, [])).2) fd [] (b :: X0) c1 D1 ⟨LoopK.code [some 0, some 1, some 2] inner rfl rfl, hcall, hle, hb, hd, trivial⟩
          rw [w] at stp
          exact LoopK.step [some 0, some 1, some 2] stp rfl h1
      | cons b D =>
        have stp := ekOOB n f st sh cs cc r c all st1 i ps.length (fun i => (ps.getD i (0, [])).1) (fun i => (ps.getD i (0, [])).2) fd (b :: D) (b :: D ++ X0) c1 D1 ⟨LoopK.code [some 0, some 1, none, some 2] inner rfl rfl, hcall, hle, hb, hd, trivial⟩
        rw [w] at stp
        exact LoopK.step [some 0, some 1, some 3] stp rfl h1
    · obtain ⟨ds, g1, g2⟩ := h3 ha
      have hall : (bif all then fd else false) = true := by
        cases hb2 : (bif all then fd else false) with
        | true => rfl
        | false => rw [h5 hb2] at ha; cases ha
      have hfd2 : fd = true := by cases all <;> simp_all
      let ds' : Nat → List UInt8 := fun j => if j = i then X0 else ds j
      have e0 : ds' i = X0 := by simp [ds']
      refine ⟨ds', ?_, fun j q1 q2 => ?_⟩
      · have hg : catM ds' (i + 1) m = catM ds (i + 1) m := catM_congr m (i + 1) (fun j q1 q2 => by simp only [ds']; rw [if_neg (by omega)])
        simp only [catM]
        rw [e0, g1, hg]
      · by_cases hj : j = i
        · subst hj; rw [e0]; exact hX2 hfd2
        · simp only [ds']; rw [if_neg hj]; exact g2 j (by omega) (by omega)

/-- The loop, its bytes told by value. -/
theorem kelCB (n : Nat) (f : Nat → ValT) (sh : Bool) (cs cc r c : Int) (c1 : Int) (D1 : List UInt8) (hn : n ≤ 1000000) (B : Nat → Nat) (Q : Nat → Int → List UInt8 → Prop) (full : Prop)
    (hp : ∀ i, i < n → ∀ st : Int, ∃ (ps : List (Int × List UInt8)) (st' : Int), ps.length ≤ 1000 ∧ (∀ q ∈ ps, Q i q.1 q.2 ∧ q.2.length ≤ B i) ∧ (full → ∃ q ∈ ps, q.1 = c) ∧
      ACalls Tryd.prog noG 56 [.ptr 0 0, .agg (nodesc (f i))] [FR st sh] (pL ps) [FR st' sh]) (st : Int) (all : Bool) (hB : sumN B 0 n ≤ 70368744177664) :
    ∃ (st' : Int) (all' : Bool) (X : List UInt8), CodeC Tryd.prog noG 75 (.loop (loopAt Tryd.f111 1)) [(0, .ptr 0 0), (2, .ro 6 n (fun i => vcl (f i))), (8, .own 1 0 1 none), (10, .lit (.int .i64 c)), (11, .lit (.slice none 0 0)), (12, .lit (.bool all)), (25, .ro 1 2 (fun i => ([.lit (.int .i64 cs), .lit (.int .i64 cc)].drop (0 + i * 1)).take 1)), (26, .lit (.int .i64 2)), (27, .lit (.int .i64 r)), (33, .ro 6 n (fun i => vcl (f i))), (34, .lit (.int .i64 n)), (35, .lit (.int .i64 (0 : Nat)))] [FR st sh, .cells 106 2 [.lit (.int .i64 c1), .bts D1]] (.exit 2) [(0, .ptr 0 0), (2, .ro 6 n (fun i => vcl (f i))), (8, .own 1 0 1 none), (10, .lit (.int .i64 c)), (11, .bts X), (12, .lit (.bool all')), (25, .ro 1 2 (fun i => ([.lit (.int .i64 cs), .lit (.int .i64 cc)].drop (0 + i * 1)).take 1)), (26, .lit (.int .i64 2)), (27, .lit (.int .i64 r))] [FR st' sh, .cells 106 2 [.lit (.int .i64 c1), .bts D1]] ∧ X.length ≤ sumN B 0 n ∧
        (all' = true → ∃ ds, X = catM ds 0 n ∧ ∀ j, j < n → Q j c (ds j)) ∧ (all = true → full → all' = true) ∧ (all = false → all' = false) := by
  obtain ⟨st', all', X, h1, h2, h3, h4, h5⟩ := kelB n f sh cs cc r c c1 D1 hn B Q full hp n 0 rfl (Nat.zero_le _) st all [] (by simpa using hB)
  refine ⟨st', all', X, ?_, h2, fun h => by obtain ⟨ds, g1, g2⟩ := h3 h; exact ⟨ds, g1, fun j hj => g2 j (Nat.zero_le _) (by omega)⟩, h4, h5⟩
  rw [List.nil_append] at h1
  cases X with
  | nil =>
    exact (LoopK.code [some 0, some 1] h1 rfl rfl).leOut ⟨rfl, Le.refl _, rfl, Le.refl _, rfl, Le.refl _, rfl, Le.refl _, rfl, Le_nil, rfl, Le.refl _, rfl, Le.refl _, rfl, Le.refl _, rfl, Le.refl _, trivial⟩
  | cons b X =>
    have a := ((LoopK.code [some 0, some 1, some 2] h1 rfl rfl).freezeOut 2 rfl rfl).only [0, 1] rfl
    exact a.leOut ⟨rfl, Le.refl _, rfl, Le.refl _, rfl, Le.refl _, rfl, Le.refl _, rfl, Le_take (b :: X), rfl, Le.refl _, rfl, Le.refl _, rfl, Le.refl _, rfl, Le.refl _, trivial⟩
end Go.Ax
