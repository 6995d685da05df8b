/-
  An abstract machine for Go functions (part 1): abstract values, their reading in a world, contracts over them, and an evaluator.
  A row of memory that a call owns has a number of its own (not a block's); data that nobody writes any more are told by value.
-/
import Derived.Orders
import Derived.Defers
import Derived.Recover
import Derived.KernelRfl
import Derived.RowKit3
set_option linter.unusedVariables false
namespace Go.Ax

/-! ### Abstract values -/
inductive AV where
  | dead
  | lit (v : Value)
  | bts (bs : List UInt8)
  | ro (sz n : Nat) (get : Nat → List AV)
  | rp (cs : List AV) (off : Nat)
  | own (id off len : Nat) (cap : Option Nat)
  | ptr (id off : Nat)
  | mp (id : Nat)
  | agg (cs : List AV)
  | tup (vs : List AV)
  | ifc (t : TypeId) (v : AV)
  | clo (fn : Fn) (first captured : List AV)
  | opt (p : Bool) (v : AV)

instance : Inhabited AV := ⟨.dead⟩

def u8 (b : UInt8) : AV := .lit (.int .u8 b.toNat)

inductive Row where
  | gone
  | cells (e : TypeId) (sz : Nat) (cs : List AV)
  | bytes (e : TypeId) (bs : List UInt8)
  | map (k : IntKind) (es : List (Int × AV))

def Row.live : Row → Bool
  | .gone => false
  | _ => true
def Row.isMap : Row → Bool
  | .map .. => true
  | _ => false
def Row.sz : Row → Nat
  | .cells _ s _ => s
  | _ => 1
def Row.elem : Row → TypeId
  | .cells e _ _ => e
  | .bytes e _ => e
  | _ => 0
def Row.cs : Row → List AV
  | .cells _ _ cs => cs
  | .bytes _ bs => bs.map u8
  | _ => []
def Row.len : Row → Nat
  | .cells _ _ cs => cs.length
  | .bytes _ bs => bs.length
  | _ => 0
def Row.ents : Row → List (Int × AV)
  | .map _ es => es
  | _ => []
def Row.kind : Row → IntKind
  | .map k _ => k
  | _ => .i64

theorem Row.cs_length (r : Row) : r.cs.length = r.len := by cases r <;> simp [Row.cs, Row.len]

abbrev Heap := Nat → Option Row

def lookL : List (Nat × Row) → Nat → Option Row
  | [], _ => none
  | (i, r) :: us, j => bif Nat.beq i j then some r else lookL us j

def Heap.upd (h : Heap) (us : List (Nat × Row)) : Heap := fun j =>
  match lookL us j with
  | some r => some r
  | none => h j

def nth {α : Type} : List α → Nat → Option α
  | [], _ => none
  | x :: _, 0 => some x
  | _ :: l, n + 1 => nth l n

theorem nth_eq {α : Type} (l : List α) : ∀ i, nth l i = l[i]? := by
  induction l with
  | nil => intro i; simp [nth]
  | cons x l ih => intro i; cases i <;> simp [nth, ih]

def hL (H : List Row) : Heap := fun i => nth H i

/-! ### How they read in a world -/

/-- Data that nobody writes: all that they reach lies in blocks that are old. -/
inductive DR (O : Nat → Prop) (w : World) : AV → Value → Prop
  | dead (v : Value) : DR O w .dead v
  | lit (v : Value) : DR O w (.lit v) v
  | bts {bs : List UInt8} {a : Addr} {cap : Nat} : (0 < bs.length → a.spot = none) → (0 < bs.length → O a.block) → bs.length ≤ cap → cap ≤ 9223372036854775807 →
      (∀ (i : Nat) (b : UInt8), bs[i]? = some b → w.cell? (a.add i) = some (.int .u8 b.toNat)) →
      DR O w (.bts bs) (.slice (some a) bs.length cap)
  | btsnil : DR O w (.bts []) (.slice none 0 0)
  | ro {sz n : Nat} {get : Nat → List AV} {a : Addr} {cap : Nat} (val : Nat → Nat → Value) : (0 < n → a.spot = none) → (0 < n → O a.block) → n ≤ cap → cap ≤ 9223372036854775807 →
      (∀ i, i < n → (get i).length = sz) →
      (∀ i j c, i < n → (get i)[j]? = some c → w.cell? (a.add (i * sz + j)) = some (val i j)) →
      (∀ i j c, i < n → (get i)[j]? = some c → DR O w c (val i j)) →
      DR O w (.ro sz n get) (.slice (some a) n cap)
  | ronil {sz : Nat} {get : Nat → List AV} : DR O w (.ro sz 0 get) (.slice none 0 0)
  | rp {cs : List AV} {off : Nat} {b o : Nat} (val : Nat → Value) : O b →
      (∀ j c, cs[j]? = some c → w.cell? ⟨b, o + j, none⟩ = some (val j)) →
      (∀ j c, cs[j]? = some c → DR O w c (val j)) →
      DR O w (.rp cs off) (.pointer (some ⟨b, o + off, none⟩))
  | agg {cs : List AV} {vs : Array Value} : cs.length = vs.size → (∀ (j : Nat) c v, cs[j]? = some c → vs[j]? = some v → DR O w c v) → DR O w (.agg cs) (.agg vs)
  | ifc {t : TypeId} {c : AV} {v : Value} : DR O w c v → DR O w (.ifc t c) (.iface t v)
  | clo {fn : Fn} {fs cp : List AV} {vf vc : Array Value} : fs.length = vf.size → cp.length = vc.size →
      (∀ (j : Nat) c v, fs[j]? = some c → vf[j]? = some v → DR O w c v) → (∀ (j : Nat) c v, cp[j]? = some c → vc[j]? = some v → DR O w c v) →
      DR O w (.clo fn fs cp) (.func fn vf vc)
  | opt {p : Bool} {c : AV} {v : Value} : (p = true → DR O w c v) → (p = false → v = undef) → DR O w (.opt p c) v

/-- Where a row lies: its block and its first cell. -/
abbrev Lay := Nat → Nat × Nat

def blockSize (w : World) (b : Nat) : Option Nat :=
  match w.heap[b]? with
  | some (.cells cur _ _) => some cur.size
  | _ => none

inductive VR (ρ : Lay) (h : Heap) (O : Nat → Prop) (w : World) : AV → Value → Prop
  | dr {a : AV} {v : Value} : DR O w a v → VR ρ h O w a v
  | own {id off len : Nat} {cap : Option Nat} {r : Row} {a : Addr} {c m : Nat} : h id = some r → r.live = true → r.isMap = false → off + len * r.sz ≤ r.len →
      a.spot = none → a.block = (ρ id).1 → ((0 < len ∨ ∃ c', cap = some c' ∧ 0 < c') → a.off = (ρ id).2 + off) → len ≤ c → c ≤ 9223372036854775807 → blockSize w (ρ id).1 = some m → a.off + c * r.sz ≤ m →
      (∀ c', cap = some c' → c = c') → VR ρ h O w (.own id off len cap) (.slice (some a) len c)
  | ownGone {id off len : Nat} {cap : Option Nat} {r : Row} {a : Option Addr} {l c : Nat} : h id = some r → r.live = false → VR ρ h O w (.own id off len cap) (.slice a l c)
  | ptr {id off : Nat} {r : Row} : h id = some r → r.live = true → r.isMap = false → VR ρ h O w (.ptr id off) (.pointer (some ⟨(ρ id).1, (ρ id).2 + off, none⟩))
  | ptrGone {id off : Nat} {r : Row} {a : Option Addr} : h id = some r → r.live = false → VR ρ h O w (.ptr id off) (.pointer a)
  | mp {id : Nat} {r : Row} : h id = some r → r.isMap = true → VR ρ h O w (.mp id) (.map (some (ρ id).1))
  | mpGone {id : Nat} {r : Row} {a : Option Nat} : h id = some r → r.live = false → VR ρ h O w (.mp id) (.map a)
  | agg {cs : List AV} {vs : Array Value} : cs.length = vs.size → (∀ (j : Nat) c v, cs[j]? = some c → vs[j]? = some v → VR ρ h O w c v) → VR ρ h O w (.agg cs) (.agg vs)
  | tup {cs : List AV} {vs : Array Value} : cs.length = vs.size → (∀ (j : Nat) c v, cs[j]? = some c → vs[j]? = some v → VR ρ h O w c v) → VR ρ h O w (.tup cs) (.tuple vs)
  | ifc {t : TypeId} {c : AV} {v : Value} : VR ρ h O w c v → VR ρ h O w (.ifc t c) (.iface t v)
  | clo {fn : Fn} {fs cp : List AV} {vf vc : Array Value} : fs.length = vf.size → cp.length = vc.size →
      (∀ (j : Nat) c v, fs[j]? = some c → vf[j]? = some v → VR ρ h O w c v) → (∀ (j : Nat) c v, cp[j]? = some c → vc[j]? = some v → VR ρ h O w c v) →
      VR ρ h O w (.clo fn fs cp) (.func fn vf vc)
  | opt {p : Bool} {c : AV} {v : Value} : (p = true → VR ρ h O w c v) → (p = false → v = undef) → VR ρ h O w (.opt p c) v

/-- A row as it lies in its block. -/
def RowR (ρ : Lay) (h : Heap) (O : Nat → Prop) (w : World) (id : Nat) (r : Row) : Prop :=
  match r with
  | .gone => True
  | .map k es => ∃ ents clock, w.heap[(ρ id).1]? = some (.map ents clock) ∧ ents.size = es.length ∧ es.length ≤ 1000000 ∧
      ∀ (j : Nat) (n : Int) (a : AV), es[j]? = some (n, a) → ∃ e, ents[j]? = some e ∧ e.key = .int k n ∧ VR ρ h O w a e.val
  | r => ∃ cur, w.heap[(ρ id).1]? = some (.cells cur r.elem (0, 0)) ∧ (ρ id).2 + r.len ≤ cur.size ∧
      ∀ (j : Nat) (a : AV), r.cs[j]? = some a → ∃ v, cur[(ρ id).2 + j]? = some v ∧ VR ρ h O w a v

structure Sim (G : Nat → Option (List AV)) (ρ : Lay) (h : Heap) (O : Nat → Prop) (w : World) : Prop where
  rows : ∀ id r, h id = some r → RowR ρ h O w id r
  inj : ∀ i j ri rj, h i = some ri → h j = some rj → ri.live = true → rj.live = true → (ρ i).1 = (ρ j).1 → i = j
  notO : ∀ id r, h id = some r → r.live = true → ¬ O (ρ id).1
  lt : ∀ b, O b → b < w.heap.size
  glob : ∀ g cs, G g = some cs → O g ∧ ∀ (j : Nat) c, cs[j]? = some c → ∃ v, w.cell? ⟨g, j, none⟩ = some v ∧ DR O w c v

/-- What a step, or a call, may do to the world: it writes its own live rows and makes new blocks. -/
structure Fr (ρ : Lay) (h : Heap) (O : Nat → Prop) (w : World) (ρ' : Lay) (h' : Heap) (O' : Nat → Prop) (w' : World) : Prop where
  os : w'.os = w.os
  tape : w'.tape = w.tape
  output : w'.output = w.output
  size : w.heap.size ≤ w'.heap.size
  keep : ∀ b, b < w.heap.size → (∀ id r, h id = some r → r.live = true → (ρ id).1 ≠ b) → w'.heap[b]? = w.heap[b]?
  dom : ∀ id r, h id = some r → ∃ r', h' id = some r' ∧ (r'.live = true → r.live = true ∧ ρ' id = ρ id ∧ r'.isMap = r.isMap ∧ r'.sz = r.sz ∧ r.len ≤ r'.len ∧
      blockSize w' (ρ id).1 = blockSize w (ρ id).1)
  own : ∀ id r', h' id = some r' → r'.live = true → (∃ i r, h i = some r ∧ r.live = true ∧ (ρ i).1 = (ρ' id).1) ∨ w.heap.size ≤ (ρ' id).1
  old : ∀ b, O b → O' b
  oldnew : ∀ b, O' b → O b ∨ (∃ i r, h i = some r ∧ r.live = true ∧ (ρ i).1 = b) ∨ w.heap.size ≤ b

def Env := Nat → Option (List AV)

/-- THE CONTRACT OF A CALL over abstract values: from rows H and arguments it returns ret and leaves the rows H' (those that came in first). -/
def ACalls (P : Program) (G : Env) (f : FuncId) (args : List AV) (H : List Row) (ret : AV) (H' : List Row) : Prop :=
  (∃ fn, P.funcs[f]? = some fn ∧ (fn.name == "runtime.NumGoroutine") = false ∧ fn.body.isNone = false) ∧
  ∀ (O : Nat → Prop) (ρ : Lay) (w : World) (vals : List Value), Sim G ρ (hL H) O w → vals.length = args.length →
    (∀ (j : Nat) a v, args[j]? = some a → vals[j]? = some v → VR ρ (hL H) O w a v) →
    Calls P f vals.toArray w fun e w' => ∃ v ρ' O', e = .returned v ∧ VR ρ' (hL H') O' w' ret v ∧ Sim G ρ' (hL H') O' w' ∧ Fr ρ (hL H) O w ρ' (hL H') O' w'

/-- One abstract value tells no more than another. -/
def Le (a b : AV) : Prop := ∀ ρ h O w v, VR ρ h O w a v → VR ρ h O w b v

def RowLe (r r' : Row) : Prop :=
  r.live = r'.live ∧ r.isMap = r'.isMap ∧ r.elem = r'.elem ∧ r.sz = r'.sz ∧ r.len = r'.len ∧ r.kind = r'.kind ∧ r.ents = r'.ents ∧
  ∀ (j : Nat) a a', r.cs[j]? = some a → r'.cs[j]? = some a' → Le a a'

/-- A call of a deferred function that does nothing when nothing panics. -/
def IdleD (P : Program) (f : FuncId) : Prop :=
  (∃ fn, P.funcs[f]? = some fn ∧ (fn.name == "runtime.NumGoroutine") = false ∧ fn.body.isNone = false) ∧
  ∀ (vals : Array Value) (w : World), CallsD P f vals .returning w fun e u w' => (∃ v, e = .returned v) ∧ u = .returning ∧ w'.heap = w.heap ∧ w'.os = w.os ∧ w'.tape = w.tape ∧ w'.output = w.output

/-! ### Renaming rows -/
mutual
def AV.ren (f : Nat → Option Nat) : AV → AV
  | .own id off len cap => match f id with | some k => .own k off len cap | none => .dead
  | .ptr id off => match f id with | some k => .ptr k off | none => .dead
  | .mp id => match f id with | some k => .mp k | none => .dead
  | .agg cs => .agg (AV.renL f cs)
  | .tup cs => .tup (AV.renL f cs)
  | .ifc t v => .ifc t (AV.ren f v)
  | .clo fn fs cp => .clo fn (AV.renL f fs) (AV.renL f cp)
  | .opt p v => .opt p (AV.ren f v)
  | .dead => .dead
  | .lit v => .lit v
  | .bts bs => .bts bs
  | .ro sz n get => .ro sz n get
  | .rp cs off => .rp cs off
def AV.renL (f : Nat → Option Nat) : List AV → List AV
  | [] => []
  | a :: l => AV.ren f a :: AV.renL f l
end

def renE (f : Nat → Option Nat) : List (Int × AV) → List (Int × AV)
  | [] => []
  | (n, a) :: l => (n, AV.ren f a) :: renE f l

def Row.ren (f : Nat → Option Nat) : Row → Row
  | .gone => .gone
  | .cells e sz cs => .cells e sz (AV.renL f cs)
  | .bytes e bs => .bytes e bs
  | .map k es => .map k (renE f es)

theorem AV.renL_map (f : Nat → Option Nat) : ∀ l, AV.renL f l = l.map (AV.ren f)
  | [] => rfl
  | a :: l => by simp [AV.renL, AV.renL_map f l]

theorem renE_map (f : Nat → Option Nat) : ∀ l, renE f l = l.map (fun x => (x.1, AV.ren f x.2))
  | [] => rfl
  | (n, a) :: l => by simp [renE, renE_map f l]

def idxIn : List Nat → Nat → Nat → Option Nat
  | [], _, _ => none
  | x :: l, k, id => bif Nat.beq x id then some k else idxIn l (k + 1) id

def elemB : List Nat → Nat → Bool
  | [], _ => false
  | x :: l, id => bif Nat.beq x id then true else elemB l id

def nodupB : List Nat → Bool
  | [] => true
  | x :: l => bif elemB l x then false else nodupB l

/-- Where a callee's row goes: a row that was handed on, or a new number from 'fr' on. -/
def backTo (L : List Nat) (fr : Nat) (k : Nat) : Option Nat :=
  match nth L k with
  | some id => some id
  | none => some (fr + (k - L.length))

end Go.Ax
