/-
  An abstract machine for Go functions (part 2): the evaluator. It runs one way through a function; what the run leans on it collects as a conjunction.
-/
import Derived.Test.YtdfefemnlimeeaaDoorAx1
set_option linter.unusedVariables false
namespace Go.Ax

inductive AExit where
  | normal
  | exit (id : Nat)
  | ret

def AExit.toExit : AExit → Exit
  | .normal => .normal
  | .exit id => .exit id
  | .ret => .ret

/-- What one piece of code does, over abstract values: from the slots 'vals' and the rows H it leaves by 'ex' with the slots 'vals'' and the rows H'. -/
def CodeC (P : Program) (G : Env) (n : Nat) (c : Code) (vals : List (Nat × AV)) (H : List Row) (ex : AExit) (vals' : List (Nat × AV)) (H' : List Row) : Prop :=
  ∀ (O : Nat → Prop) (ρ : Lay) (a : Act) (w : World), Sim G ρ (hL H) O w → a.tmps.size = n →
    (∀ t av, (t, av) ∈ vals → VR ρ (hL H) O w av (a.tmps.getD t undef)) →
    c.wp P (fun e a' w' => ∃ ρ' O', e = ex.toExit ∧ a'.tmps.size = n ∧ a'.defers = a.defers ∧
      (∀ t av, (t, av) ∈ vals' → VR ρ' (hL H') O' w' av (a'.tmps.getD t undef)) ∧ Sim G ρ' (hL H') O' w' ∧ Fr ρ (hL H) O w ρ' (hL H') O' w') a w

def AllP : List Prop → Prop
  | [] => True
  | p :: l => p ∧ AllP l

inductive Orc where
  | bit (b : Bool)
  | both (x : Bool)
  | name (z : Bool)
  | val (v : AV)
  | call (L : List Nat) (args : List AV) (H : List Row) (ret : AV) (H' : List Row)
  | loop (L : List Nat) (vals : List (Nat × AV)) (H : List Row) (ex : AExit) (vals' : List (Nat × AV)) (H' : List Row)
  | turns (n : Nat)
  | own (L : List Nat) (n : Nat) (x : List UInt8)
  | auto
  | frz (region slot : Nat)
  | fin (L : List Nat)

structure St where
  n : Nat
  tm : Nat → AV
  h : Heap
  nx : Nat
  df : List (FuncId × List AV)
  c : List Prop
  orc : List Orc

def evX (tm : Nat → AV) : Operand → AV
  | .tmp t => tm t
  | .const v => .lit v
  | .global g => .lit (.pointer (some ⟨g, 0, none⟩))
  | .func f => .lit (.func (.func f) #[] #[])

abbrev Ev := Option (AV × List (Nat × Row) × List Prop)

/-! ### Operations that look at no memory -/
def pureV {α : Type} (P : Program) : Sem α → Option α
  | .pure a => some a
  | .program k => pureV P (k P)
  | .mark _ k => pureV P k
  | _ => none

def litOf : AV → Option Value
  | .lit v => some v
  | _ => none

def allLit (f : Operand → AV) : List Operand → Bool
  | [] => true
  | x :: l => match f x with | .lit _ => allLit f l | _ => false

def evPure (P : Program) (o : Oper) (f : Operand → AV) : Ev :=
  match o.op with
  | .select _ _ => none
  | _ =>
    bif allLit f o.op.operands.toList then
      match pureV P (execOp (fun x => (litOf (f x)).getD undef) o) with
      | some (.value v) => some (.lit v, [], [])
      | _ => none
    else none

def isUndef : AV → Bool
  | .lit (.tuple _) => true
  | _ => false

def pickE (c a b : AV) : Ev :=
  match c with
  | .lit (.bool t) =>
    match a, b with
    | .lit (.bool x), .lit (.bool y) => some (.lit (.bool (bif t then x else y)), [], [])
    | .opt q (.lit (.bool x)), .lit (.bool y) => some (.lit (.bool (bif t then x else y)), [], [t = true → q = true])
    | .lit (.bool x), .opt q (.lit (.bool y)) => some (.lit (.bool (bif t then x else y)), [], [t = false → q = true])
    | .opt q (.lit (.bool x)), .opt r (.lit (.bool y)) => some (.lit (.bool (bif t then x else y)), [], [t = true → q = true, t = false → r = true])
    | a, b => bif isUndef b then some (a, [], [t = true]) else bif isUndef a then some (b, [], [t = false]) else none
  | _ => none

/-! ### Cells -/
def AV.cells? : AV → Option (List AV)
  | .agg cs => some cs
  | .lit (.agg vs) => some (vs.toList.map .lit)
  | .lit (.tuple _) => none
  | .dead => none
  | .opt _ _ => none
  | .tup _ => none
  | a => some [a]

/-- May it lie in one cell? -/
def AV.one : AV → Bool
  | .agg _ => false
  | .lit (.agg _) => false
  | .lit (.tuple _) => false
  | .dead => false
  | .opt _ _ => false
  | .tup _ => false
  | _ => true

def allOne : List AV → Bool
  | [] => true
  | a :: l => bif a.one then allOne l else false

def setL : List AV → Nat → List AV → List AV
  | cs, _, [] => cs
  | cs, off, v :: vs => setL (cs.set off v) (off + 1) vs

def zeroCells? (P : Program) (t : TypeId) : Option (List AV) := (P.info? t).bind fun i => i.zero.map fun z => z.cells.toList.map .lit
def szOf (P : Program) (t : TypeId) : Option Nat := (P.info? t).map (·.size)

def isAggB (P : Program) (t : TypeId) : Option Bool :=
  match P.underlying t with
  | some (.struct _) => some true
  | some (.array _ _) => some true
  | some _ => some false
  | none => none

def partE (P : Program) (t : TypeId) (cs : List AV) (off : Nat) : Option AV :=
  match isAggB P t with
  | some true =>
    match szOf P t with
    | some n => bif Nat.beq ((cs.drop off).take n).length n then some (.agg ((cs.drop off).take n)) else none
    | none => none
  | some false => nth cs off
  | none => none

def allocE (P : Program) (t : TypeId) (fr : Nat) : Ev :=
  match zeroCells? P t with
  | some cs => some (.ptr fr 0, [(fr, .cells t ((szOf P t).getD 1) cs)], [])
  | none => none

def boxE (P : Program) (t : TypeId) (x : AV) (fr : Nat) : Ev :=
  match x.cells? with
  | some cs => some (.ptr fr 0, [(fr, .cells t ((szOf P t).getD 1) cs)], [])
  | none => none

def fillE (place : Nat → Option (Nat × Nat)) : List AV → List (Nat × AV) → Option (List AV)
  | cells, [] => some cells
  | cells, (i, a) :: rest =>
    match place i, a.cells? with
    | some (off, size), some cs => bif Nat.beq cs.length size && Nat.ble (off + size) cells.length then fillE place (setL cells off cs) rest else none
    | _, _ => none

def placesE (P : Program) : List Field → Option (List (Nat × Nat))
  | [] => some []
  | f :: l =>
    match szOf P f.type, placesE P l with
    | some n, some r => some ((f.offset, n) :: r)
    | _, _ => none

def buildE (P : Program) (t : TypeId) (parts : List (Nat × AV)) : Ev :=
  match zeroCells? P t with
  | none => none
  | some z =>
    match P.underlying t with
    | some (.struct fields) =>
      match placesE P fields.toList with
      | some pl => (fillE (fun i => nth pl i) z parts).map fun cs => (.agg cs, [], [])
      | none => none
    | some (.array _ e) =>
      match szOf P e with
      | some n => (fillE (fun i => some (i * n, n)) z parts).map fun cs => (.agg cs, [], [])
      | none => none
    | _ => none

def bytesC : List AV → Option (List UInt8 × List Prop)
  | [] => some ([], [])
  | .lit (.int .u8 n) :: l =>
    match bytesC l with
    | some (bs, c) => some (UInt8.ofNat n.toNat :: bs, (0 ≤ n ∧ n < 256) :: c)
    | none => none
  | _ => none

def zeroU8 : Option Value → Bool
  | some (.int .u8 0) => true
  | _ => false

def isU8 (P : Program) (e : TypeId) : Bool :=
  match P.underlying e, P.info? e with
  | some (.int .u8), some i => Nat.beq i.size 1 && Nat.beq i.bytes 1 && zeroU8 i.zero
  | _, _ => false

def repL (z : List AV) : Nat → List AV
  | 0 => []
  | n + 1 => z ++ repL z n

def buildSliceE (P : Program) (t : TypeId) (len : Nat) (parts : List (Nat × AV)) (fr : Nat) : Ev :=
  match P.underlying t with
  | some (.slice e) =>
    bif isU8 P e then
      bif Nat.ble len 16777216 then
        match fillE (fun i => some (i * 1, 1)) (repL [.lit (.int .u8 0)] len) parts with
        | some cs =>
          match bytesC cs with
          | some (bs, c) => some (.own fr 0 len (some len), [(fr, .bytes e bs)], c)
          | none => none
        | none => none
      else none
    else
      match szOf P e, zeroCells? P e with
      | some sz, some z =>
        bif Nat.ble (len * sz) 16777216 && Nat.beq z.length sz && Nat.ble 1 sz then
          (fillE (fun i => some (i * sz, sz)) (repL z len) parts).map fun cs => (.own fr 0 len (some len), [(fr, .cells e sz cs)], [])
        else none
      | _, _ => none
  | _ => none

/-! ### Loads and stores -/
def loadE (P : Program) (G : Env) (t : TypeId) (a : AV) (h : Heap) (ov : Option AV) : Option (AV × List Prop) :=
  match a with
  | .ptr id off =>
    match h id with
    | some (.cells _ _ cs) =>
      match ov with
      | some v => match isAggB P t with | some false => some (v, [nth cs off = some v]) | _ => none
      | none => (partE P t cs off).map fun v => (v, [])
    | some (.bytes _ bs) =>
      match isAggB P t with
      | some false => some (u8 (bs.getD off 0), [off < bs.length])
      | _ => none
    | _ => none
  | .rp cs off => (partE P t cs off).map fun v => (v, [])
  | .lit (.pointer (some ⟨g, 0, none⟩)) =>
    match G g with
    | some cs => (partE P t cs 0).map fun v => (v, [])
    | none => none
  | _ => none

def storeE (P : Program) (t : TypeId) (a x : AV) (h : Heap) : Ev :=
  match a, x.cells?, szOf P t with
  | .ptr id off, some vs, some n =>
    bif Nat.beq vs.length n && allOne vs then
      match h id with
      | some (.cells e sz cs) => some (.lit undef, [(id, .cells e sz (setL cs off vs))], [off + n ≤ cs.length])
      | some (.bytes e bs) =>
        match vs with
        | [.lit (.int .u8 k)] => some (.lit undef, [(id, .bytes e (bs.set off (UInt8.ofNat k.toNat)))], [off < bs.length ∧ 0 ≤ k ∧ k < 256])
        | _ => none
      | _ => none
    else none
  | _, _, _ => none

/-- One of some rows of bytes: which one, a number tells that is not known. It gets a number of its own; nobody knows the others any more. -/
def candIds : List AV → List Nat
  | .own id _ _ _ :: l => id :: candIds l
  | _ :: l => candIds l
  | [] => []

def candE (h : Heap) (e : TypeId) : List AV → Option (List (Nat × List UInt8))
  | [] => some []
  | .own id 0 len _ :: l =>
    match h id with
    | some (.bytes e' bs) => bif Nat.beq e e' then (candE h e l).map ((len, bs) :: ·) else none
    | _ => none
  | _ => none

def pickRowE (P : Program) (t : TypeId) (a : AV) (n : Nat) (x : List UInt8) (h : Heap) (fr : Nat) : Ev :=
  match a with
  | .ptr id off =>
    match h id with
    | some (.cells _ _ cs) =>
      match cs, isAggB P t with
      | .own id0 _ _ _ :: _, some false =>
        match h id0 with
        | some (.bytes e _) =>
          match candE h e cs with
          | some l => some (.own fr 0 n none, (fr, .bytes e x) :: (candIds cs).map (fun i => (i, .gone)), [nth l off = some (n, x)])
          | none => none
        | _ => none
      | _, _ => none
    | _ => none
  | _ => none

def liveAt (h : Heap) (id : Nat) : Bool :=
  match h id with
  | some (.cells ..) => true
  | some (.bytes ..) => true
  | _ => false

/-! ### Arithmetic that may panic; comparisons with nil -/
def binE (P : Program) (op : BinOp) (t : TypeId) (x y : AV) (h : Heap) : Option (AV × List Prop) :=
  match op, x, y with
  | .shl, .lit (.int k a), .lit (.int _ b) => some (.lit (.int k (k.wrap (a * 2 ^ (min b.toNat k.bits)))), [0 ≤ b])
  | .shr, .lit (.int k a), .lit (.int _ b) => some (.lit (.int k (a.fdiv (2 ^ (min b.toNat k.bits)))), [0 ≤ b])
  | .quo, .lit (.int k a), .lit (.int k' b) => if k = k' then some (.lit (.int k (k.wrap (a.tdiv b))), [b ≠ 0]) else none
  | .rem, .lit (.int k a), .lit (.int k' b) => if k = k' then some (.lit (.int k (a.tmod b)), [b ≠ 0]) else none
  | .eql, .ptr i _, .lit (.pointer none) => match P.underlying t with | some (.pointer _) => bif liveAt h i then some (.lit (.bool false), []) else none | _ => none
  | .neq, .ptr i _, .lit (.pointer none) => match P.underlying t with | some (.pointer _) => bif liveAt h i then some (.lit (.bool true), []) else none | _ => none
  | .eql, .ifc _ _, .lit .nilIface => match P.underlying t with | some (.interface _) => some (.lit (.bool false), []) | _ => none
  | .neq, .ifc _ _, .lit .nilIface => match P.underlying t with | some (.interface _) => some (.lit (.bool true), []) | _ => none
  | .eql, .own i _ _ _, .lit (.slice none 0 0) => match P.underlying t with | some (.slice _) => bif liveAt h i then some (.lit (.bool false), []) else none | _ => none
  | .neq, .own i _ _ _, .lit (.slice none 0 0) => match P.underlying t with | some (.slice _) => bif liveAt h i then some (.lit (.bool true), []) else none | _ => none
  | .eql, .clo .., .lit .nilFunc => match P.underlying t with | some (.func ..) => some (.lit (.bool false), []) | _ => none
  | .neq, .clo .., .lit .nilFunc => match P.underlying t with | some (.func ..) => some (.lit (.bool true), []) | _ => none
  | _, _, _ => none

/-! ### Slices -/
def toB : AV → Option UInt8
  | .lit (.int .u8 n) => some (UInt8.ofNat n.toNat)
  | _ => none

def convE (P : Program) (src dst : TypeId) (x : AV) (h : Heap) : Option (AV × List Prop) :=
  match P.underlying src, P.underlying dst, x with
  | some (.slice e), some .string, .bts bs => bif isU8 P e then some (.lit (.string ⟨bs.toArray⟩), []) else none
  | some (.slice e), some .string, .own id off len _ =>
    bif isU8 P e then
      match h id with
      | some (.bytes _ bs) => some (.lit (.string ⟨((bs.drop off).take len).toArray⟩), [])
      | some (.cells _ 1 cs) => some (.lit (.string ⟨(((cs.drop off).take len).filterMap toB).toArray⟩), [(cs.drop off).take len = (((cs.drop off).take len).filterMap toB).map u8])
      | _ => none
    else none
  | some (.slice e), some .string, .lit (.slice none 0 0) => bif isU8 P e then some (.lit (.string .empty), []) else none
  | some .string, some (.slice e), .lit (.string s) => bif isU8 P e then some (.bts s.data.toList, [s.size ≤ 140737488355328]) else none
  | _, _, _ => none

/-- Bytes that are converted to their own type: from here on nobody writes them. -/
def selfE (P : Program) (src dst : TypeId) (x : AV) (h : Heap) : Ev :=
  match P.underlying src, x with
  | some (.slice e), .own id off len _ =>
    bif isU8 P e && Nat.beq src dst then
      match h id with
      | some (.bytes _ bs) => some (.bts ((bs.drop off).take len), [(id, .gone)], [])
      | _ => none
    else none
  | _, _ => none

def intOf? : AV → Option Int
  | .lit (.int _ n) => some n
  | _ => none

def lenE (P : Program) (t : TypeId) (x : AV) (h : Heap) : Option (AV × List Prop) :=
  match P.underlying t, x with
  | some (.slice _), .bts bs => some (.lit (.int .i64 bs.length), [])
  | some (.slice _), .ro _ n _ => some (.lit (.int .i64 n), [])
  | some (.slice _), .own id _ len _ => bif liveAt h id then some (.lit (.int .i64 len), []) else none
  | some (.map _ _), .mp id => match h id with | some (.map _ es) => some (.lit (.int .i64 es.length), []) | _ => none
  | _, _ => none

def capE (P : Program) (t : TypeId) (x : AV) (h : Heap) : Option AV :=
  match P.underlying t, x with
  | some (.slice _), .own id _ _ (some c) => bif liveAt h id then some (.lit (.int .i64 c)) else none
  | _, _ => none

/-- The bounds of a slice expression: low, high. -/
def boundsE (low high : Option AV) (len : Nat) : Option (Int × Int) :=
  match low, high with
  | none, none => some (0, len)
  | some l, none => (intOf? l).map fun l => (l, len)
  | none, some h => (intOf? h).map fun h => (0, h)
  | some l, some h =>
    match intOf? l, intOf? h with
    | some l, some h => some (l, h)
    | _, _ => none

def sliceE (P : Program) (t : TypeId) (x : AV) (low high mx : Option AV) (h : Heap) : Option (AV × List Prop) :=
  match mx with
  | some _ => none
  | none =>
    match P.underlying t, x with
    | some .string, .lit (.string s) =>
      (boundsE low high s.size).map fun (l, hi) => (.lit (.string (s.extract l.toNat hi.toNat)), [0 ≤ l ∧ l ≤ hi ∧ hi ≤ s.size])
    | some (.slice e), .bts bs =>
      bif isU8 P e then (boundsE low high bs.length).map fun (l, hi) => (.bts ((bs.take hi.toNat).drop l.toNat), [0 ≤ l ∧ l ≤ hi ∧ hi ≤ bs.length]) else none
    | some (.slice e), .ro sz n get =>
      match szOf P e with
      | some sz' => bif Nat.beq sz sz' then (boundsE low high n).map fun (l, hi) => (.ro sz (hi.toNat - l.toNat) (fun i => get (l.toNat + i)), [0 ≤ l ∧ l ≤ hi ∧ hi ≤ n]) else none
      | none => none
    | some (.slice e), .own id off len cap =>
      match h id, szOf P e with
      | some r, some sz =>
        bif liveAt h id && Nat.beq r.sz sz then
          (boundsE low high len).map fun (l, hi) => (.own id (off + l.toNat * sz) (hi.toNat - l.toNat) (cap.map (· - l.toNat)),
            [0 ≤ l ∧ l ≤ hi ∧ (hi ≤ len ∨ (∃ c, cap = some c ∧ hi ≤ c ∧ off + hi.toNat * sz ≤ r.len))])
        else none
      | _, _ => none
    | some (.slice e), .lit (.slice none 0 0) => match szOf P e with | some _ => (boundsE low high 0).map fun (l, hi) => (.lit (.slice none 0 0), [0 ≤ l ∧ l ≤ hi ∧ hi ≤ 0]) | none => none
    | _, _ => none

def indexAddrE (P : Program) (t : TypeId) (x i : AV) (h : Heap) : Option (AV × List Prop) :=
  match P.underlying t, intOf? i with
  | some (.slice e), some n =>
    match szOf P e, x with
    | some sz, .own id off len _ =>
      match h id with
      | some r => bif liveAt h id && Nat.beq r.sz sz then some (.ptr id (off + n.toNat * sz), [0 ≤ n ∧ n < len]) else none
      | none => none
    | some sz, .ro sz' m get => bif Nat.beq sz sz' then some (.rp (get n.toNat) 0, [0 ≤ n ∧ n < m]) else none
    | some sz, .bts bs => bif Nat.beq sz 1 then some (.rp [u8 (bs.getD n.toNat 0)] 0, [0 ≤ n ∧ n < bs.length]) else none
    | _, _ => none
  | some (.array m e), some n =>
    match szOf P e, x with
    | some sz, .ptr id off => bif liveAt h id && Nat.ble 2 m then some (.ptr id (off + n.toNat * sz), [0 ≤ n ∧ n < m]) else none
    | some sz, .rp cs off => bif Nat.ble 2 m then some (.rp cs (off + n.toNat * sz), [0 ≤ n ∧ n < m]) else none
    | _, _ => none
  | _, _ => none

def indexE (P : Program) (t : TypeId) (x i : AV) : Option (AV × List Prop) :=
  match P.underlying t, x, intOf? i with
  | some .string, .lit (.string s), some n => some (u8 (s.data.toList.getD n.toNat 0), [0 ≤ n ∧ n < s.size])
  | some (.array m e), .agg cs, some n =>
    match szOf P e with
    | some sz => (partE P e cs (n.toNat * sz)).map fun v => (v, [0 ≤ n ∧ n < m])
    | none => none
  | _, _, _ => none

def fieldAddrE (P : Program) (s : TypeId) (x : AV) (f : Nat) (h : Heap) : Option AV :=
  match P.underlying s with
  | some (.struct fields) =>
    match nth fields.toList f with
    | some fd =>
      match szOf P fd.type with
      | some n =>
        bif Nat.ble 1 n then
          match x with
          | .ptr id off => bif liveAt h id then some (.ptr id (off + fd.offset)) else none
          | .rp cs off => some (.rp cs (off + fd.offset))
          | _ => none
        else none
      | none => none
    | none => none
  | _ => none

def fieldE (P : Program) (t : TypeId) (x : AV) (f : Nat) : Option AV :=
  match P.underlying t, x with
  | some (.struct fields), .agg cs =>
    match nth fields.toList f with
    | some fd => partE P fd.type cs fd.offset
    | none => none
  | _, _ => none

def extractE (x : AV) (i : Nat) : Option AV :=
  match x with
  | .tup vs => nth vs i
  | _ => none

def mkIfaceE (P : Program) (t : TypeId) (x : AV) : Option AV :=
  match P.underlying t with
  | some (.interface _) => none
  | none => none
  | some _ => match x with | .lit v => some (.lit (.iface t v)) | .dead => none | .opt _ _ => none | x => some (.ifc t x)

def assertE (P : Program) (x : AV) (asserted : TypeId) (ok : Bool) : Option AV :=
  match x with
  | .ifc t v =>
    match P.underlying asserted with
    | some (.interface _) => none
    | none => none
    | some _ =>
      bif Nat.beq t asserted then some (bif ok then .tup [v, .lit (.bool true)] else v)
      else bif ok then ((P.info? asserted).bind (·.zero)).map fun z => .tup [.lit z, .lit (.bool false)] else none
  | _ => none

def makeSliceE (P : Program) (t : TypeId) (l c : AV) (fr : Nat) : Ev :=
  match P.underlying t, intOf? l, intOf? c with
  | some (.slice e), some n, some m =>
    match P.info? e with
    | some i =>
      bif isU8 P e then
        some (.own fr 0 n.toNat (some m.toNat), [(fr, .bytes e (List.replicate m.toNat 0))], [0 ≤ n ∧ n ≤ m ∧ m ≤ 140737488355328])
      else
        match i.zero with
        | some z =>
          bif Nat.beq z.cells.size i.size && Nat.ble 1 i.size then
            some (.own fr 0 n.toNat (some m.toNat), [(fr, .cells e i.size (repL (z.cells.toList.map .lit) m.toNat))], [0 ≤ n ∧ n ≤ m ∧ m ≤ 140737488355328 ∧ m * i.bytes ≤ 140737488355328])
          else none
        | none => none
    | none => none
  | _, _, _ => none

/-- The cells of what is appended or copied, and how many elements: bytes. -/
def srcB (x : AV) (h : Heap) : Option (List UInt8) :=
  match x with
  | .bts bs => some bs
  | .own id off len _ =>
    match h id with
    | some (.bytes _ bs) => some ((bs.drop off).take len)
    | _ => none
  | .lit (.slice none 0 0) => some []
  | .lit (.string s) => some s.data.toList
  | _ => none

def getsL (get : Nat → List AV) : Nat → Nat → List AV
  | _, 0 => []
  | k, n + 1 => get k ++ getsL get (k + 1) n

/-- The same: cells of a size. -/
def srcC (sz : Nat) (x : AV) (h : Heap) : Option (Nat × List AV) :=
  match x with
  | .ro sz' n get => bif Nat.beq sz sz' then some (n, getsL get 0 n) else none
  | .own id off len _ =>
    match h id with
    | some (.cells _ sz' cs) => bif Nat.beq sz sz' then some (len, (cs.drop off).take (len * sz)) else none
    | _ => none
  | .lit (.slice none 0 0) => some (0, [])
  | _ => none

def appOk (P : Program) (t xt e : TypeId) : Bool :=
  match P.underlying xt with
  | some (.slice _) => Nat.beq xt t
  | some .string => isU8 P e
  | _ => false

def copyOk (P : Program) (xt e : TypeId) : Bool :=
  match P.underlying xt with
  | some (.slice e') => Nat.beq e e'
  | some .string => true
  | _ => false

def appendE (P : Program) (t xt : TypeId) (s x : AV) (h : Heap) (fr : Nat) (bit : Option Bool) : Ev :=
  match P.underlying t with
  | some (.slice e) =>
    bif appOk P t xt e then
      match P.info? e with
      | some i =>
        bif isU8 P e then
          match srcB x h with
          | some news =>
            match s with
            | .own id off len _ =>
              match h id with
              | some (.bytes e' bs) =>
                bif Nat.beq e e' then
                  some (.own fr 0 (len + news.length) none, [(id, .gone), (fr, .bytes e ((bs.drop off).take len ++ news))], [(len + news.length) ≤ 140737488355328])
                else none
              | _ => none
            | .lit (.slice none 0 0) =>
              match bit with
              | some true => some (.own fr 0 news.length none, [(fr, .bytes e news)], [0 < news.length ∧ news.length ≤ 140737488355328])
              | some false => some (.lit (.slice none 0 0), [], [news.length = 0])
              | none => none
            | _ => none
          | none => none
        else
          match i.zero with
          | some z =>
            bif Nat.beq z.cells.size i.size && Nat.ble 1 i.size then
              match srcC i.size x h with
              | some (m, news) =>
                match s with
                | .own id off len _ =>
                  match h id with
                  | some (.cells e' sz cs) =>
                    bif Nat.beq e e' && Nat.beq sz i.size then
                      some (.own fr 0 (len + m) none, [(id, .gone), (fr, .cells e sz ((cs.drop off).take (len * sz) ++ news))],
                        [(len + m) ≤ 140737488355328 ∧ (len + m) * i.bytes ≤ 140737488355328 ∧ allOne news = true])
                    else none
                  | _ => none
                | .lit (.slice none 0 0) =>
                  match bit with
                  | some true => some (.own fr 0 m none, [(fr, .cells e i.size news)], [0 < m ∧ m ≤ 140737488355328 ∧ m * i.bytes ≤ 140737488355328 ∧ allOne news = true])
                  | some false => some (.lit (.slice none 0 0), [], [m = 0])
                  | none => none
                | _ => none
              | none => none
            else none
          | none => none
      | none => none
    else none
  | _ => none

def copyE (P : Program) (t xt : TypeId) (d x : AV) (h : Heap) : Ev :=
  match P.underlying t, d with
  | some (.slice e), .own id off len _ =>
    bif isU8 P e && copyOk P xt e then
      match h id, srcB x h with
      | some (.bytes e' bs), some src =>
        some (.lit (.int .i64 ((min src.length len : Nat) : Int)), [(id, .bytes e' (bs.take off ++ src.take (min src.length len) ++ bs.drop (off + min src.length len)))], [])
      | some (.cells e' 1 cs), some src =>
        some (.lit (.int .i64 ((min src.length len : Nat) : Int)), [(id, .cells e' 1 (cs.take off ++ (src.take (min src.length len)).map u8 ++ cs.drop (off + min src.length len)))], [])
      | _, _ => none
    else none
  | _, _ => none

/-! ### Maps whose keys are whole numbers -/
def memI : List (Int × AV) → Int → Bool
  | [], _ => false
  | (k, _) :: l, n => bif k == n then true else memI l n

def putI : List (Int × AV) → Int → AV → List (Int × AV)
  | [], n, v => [(n, v)]
  | (k, a) :: l, n, v => bif k == n then (k, v) :: l else (k, a) :: putI l n v

def mgetI : List (Int × Int) → Int → Int → Int
  | [], _, z => z
  | (k, v) :: l, n, z => bif k == n then v else mgetI l n z

/-- The entries, where all are whole numbers of one kind. -/
def litInts (kd : IntKind) : List (Int × AV) → Option (List (Int × Int))
  | [] => some []
  | (k, .lit (.int kd' v)) :: l =>
    match litInts kd l with
    | some r => if kd = kd' then some ((k, v) :: r) else none
    | none => none
  | _ => none

def zeroOf (P : Program) (e : TypeId) : Option Value := (P.info? e).bind (·.zero)

def lookupI (P : Program) (t : TypeId) (m i : AV) (ok : Bool) (h : Heap) : Option AV :=
  match P.underlying t, m, i with
  | some (.map kt e), .mp id, .lit (.int kd n) =>
    match P.underlying kt, h id, zeroOf P e with
    | some (.int kd'), some (.map kd'' es), some (.int kz z) =>
      if kd = kd' ∧ kd = kd'' then
        match litInts kz es with
        | some m => some (bif ok then .tup [.lit (.int kz (mgetI m n z)), .lit (.bool (memI es n))] else .lit (.int kz (mgetI m n z)))
        | none => none
      else none
    | _, _, _ => none
  | _, _, _ => none

def firstI : List (Int × AV) → Int → Option AV
  | [], _ => none
  | (k, a) :: l, n => bif k == n then some a else firstI l n

/-- A look-up of any entry. -/
def lookupG (P : Program) (t : TypeId) (m i : AV) (ok : Bool) (h : Heap) : Option AV :=
  match P.underlying t, m, i with
  | some (.map kt e), .mp id, .lit (.int kd n) =>
    match P.underlying kt, h id, zeroOf P e with
    | some (.int kd'), some (.map kd'' es), some z =>
      if kd = kd' ∧ kd = kd'' then
        match firstI es n with
        | some a => some (bif ok then .tup [a, .lit (.bool true)] else a)
        | none => some (bif ok then .tup [.lit z, .lit (.bool false)] else .lit z)
      else none
    | _, _, _ => none
  | _, _, _ => none

def lookupE (P : Program) (t : TypeId) (m i : AV) (ok : Bool) (h : Heap) : Option AV :=
  match lookupI P t m i ok h with
  | some v => some v
  | none => lookupG P t m i ok h

def insertE (P : Program) (t : TypeId) (m k v : AV) (h : Heap) : Ev :=
  match P.underlying t, m, k with
  | some (.map kt _), .mp id, .lit (.int kd n) =>
    match P.underlying kt, h id with
    | some (.int kd'), some (.map kd'' es) =>
      if kd = kd' ∧ kd = kd'' then
        bif memI es n then none else some (.lit undef, [(id, .map kd (es ++ [(n, v)]))], [es.length < 1000000])
      else none
    | _, _ => none
  | _, _, _ => none

def makeMapE (P : Program) (t : TypeId) (r : Option AV) (fr : Nat) : Ev :=
  match r, P.underlying t with
  | none, some (.map kt _) =>
    match P.underlying kt with
    | some (.int kd) => some (.mp fr, [(fr, .map kd [])], [])
    | _ => none
  | _, _ => none

/-! ### Calls -/
def calleeE (P : Program) (f : Operand → AV) (c : Call) : Option (FuncId × List AV) :=
  match c.callee with
  | .value x =>
    match f x with
    | .lit (.func (.func g) fs cp) => some (g, fs.toList.map .lit ++ c.args.toList.map f ++ cp.toList.map .lit)
    | .clo (.func g) fs cp => some (g, fs ++ c.args.toList.map f ++ cp)
    | _ => none
  | .invoke x name =>
    match f x with
    | .ifc t v =>
      match (P.info? t).bind fun i => i.methods.find? (·.name == name) with
      | some m =>
        bif m.path.isEmpty then
          match m.func, P.underlying t with
          | some (g, true), some (.pointer _) => some (g, v :: c.args.toList.map f)
          | some (g, false), some (.pointer _) => none
          | some (g, false), some _ => some (g, v :: c.args.toList.map f)
          | _, _ => none
        else none
      | none => none
    | _ => none
  | .builtin _ => none

def leAll : List AV → List AV → Prop
  | [], [] => True
  | a :: l, b :: m => Le a b ∧ leAll l m
  | _, _ => False

def leRows (L : List Nat) (h : Heap) : List Nat → List Row → Prop
  | [], [] => True
  | id :: l, r :: H => (match h id with | some r' => RowLe (r'.ren (idxIn L 0)) r | none => False) ∧ leRows L h l H
  | _, _ => False

def backRows (L : List Nat) (fr : Nat) : Nat → List Row → List (Nat × Row)
  | _, [] => []
  | k, r :: H => ((backTo L fr k).getD 0, r.ren (backTo L fr)) :: backRows L fr (k + 1) H

def allLive (h : Heap) : List Nat → Bool
  | [] => true
  | id :: l => match h id with | some r => bif r.live then allLive h l else false | none => false

def callE (P : Program) (G : Env) (g : FuncId) (as : List AV) (h : Heap) (fr : Nat) (L : List Nat) (args : List AV) (H : List Row) (ret : AV) (H' : List Row) : Ev :=
  bif nodupB L && allLive h L && Nat.ble H'.length (L.length + 60) && Nat.ble L.length H'.length then
    some (ret.ren (backTo L fr), backRows L fr 0 H', [ACalls P G g args H ret H', leAll (as.map (AV.ren (idxIn L 0))) args, leRows L h L H])
  else none

/-- A function without a body. -/
def externB (P : Program) (f : Operand → AV) (c : Call) : Bool :=
  match calleeE P f c with
  | some (g, _) => match P.funcs[g]? with | some fn => fn.body.isNone | none => false
  | none => false

/-! ### One operation -/
def noOrc (orc : List Orc) (e : Ev) : Option (AV × List (Nat × Row) × List Prop × List Orc) := e.map fun (v, us, c) => (v, us, c, orc)
def quiet (orc : List Orc) (e : Option (AV × List Prop)) : Option (AV × List (Nat × Row) × List Prop × List Orc) := e.map fun (v, c) => (v, [], c, orc)
def still (orc : List Orc) (e : Option AV) : Option (AV × List (Nat × Row) × List Prop × List Orc) := e.map fun v => (v, [], [], orc)

def evOp (P : Program) (G : Env) (o : Oper) (f : Operand → AV) (h : Heap) (fr : Nat) (orc : List Orc) : Option (AV × List (Nat × Row) × List Prop × List Orc) :=
  match o.op with
  | .move x => some (f x, [], [], orc)
  | .assign x => some (f x, [], [], orc)
  | .pick c a b => noOrc orc (pickE (f c) (f a) (f b))
  | .alloc t => noOrc orc (allocE P t fr)
  | .box t x => noOrc orc (boxE P t (f x) fr)
  | .build t parts => noOrc orc (buildE P t (parts.toList.map fun (i, x) => (i, f x)))
  | .buildSlice t len parts => noOrc orc (buildSliceE P t len (parts.toList.map fun (i, x) => (i, f x)) fr)
  | .load t a =>
    match orc with
    | .val v :: orc' => quiet orc' (loadE P G t (f a) h (some v))
    | .own _ n x :: orc' => noOrc orc' (pickRowE P t (f a) n x h fr)
    | _ => quiet orc (loadE P G t (f a) h none)
  | .store t a x => noOrc orc (storeE P t (f a) (f x) h)
  | .nilCheck x =>
    match f x with
    | .ptr i k => bif liveAt h i then some (.ptr i k, [], [], orc) else none
    | .rp cs k => some (.rp cs k, [], [], orc)
    | .ifc t v => some (.ifc t v, [], [], orc)
    | .clo (.func g) a b => some (.clo (.func g) a b, [], [], orc)
    | _ => noOrc orc (evPure P o f)
  | .binOp op t x y _ =>
    match binE P op t (f x) (f y) h with
    | some (v, c) => some (v, [], c, orc)
    | none => noOrc orc (evPure P o f)
  | .convert src dst x =>
    match selfE P src dst (f x) h with
    | some (v, us, c) => some (v, us, c, orc)
    | none =>
    match convE P src dst (f x) h with
    | some (v, c) => some (v, [], c, orc)
    | none => noOrc orc (evPure P o f)
  | .makeInterface t x => still orc (mkIfaceE P t (f x))
  | .makeFunc fn first captured => some (.clo fn (first.toList.map f) (captured.toList.map f), [], [], orc)
  | .makeMap t r => noOrc orc (makeMapE P t (r.map f) fr)
  | .makeSlice t l c => noOrc orc (makeSliceE P t (f l) (f c) fr)
  | .slice t x lo hi mx => quiet orc (sliceE P t (f x) (lo.map f) (hi.map f) (mx.map f) h)
  | .fieldAddr s x k =>
    match fieldAddrE P s (f x) k h with
    | some v => some (v, [], [], orc)
    | none => noOrc orc (evPure P o f)
  | .field t x k =>
    match fieldE P t (f x) k with
    | some v => some (v, [], [], orc)
    | none => noOrc orc (evPure P o f)
  | .indexAddr t x i => quiet orc (indexAddrE P t (f x) (f i) h)
  | .index t x i => quiet orc (indexE P t (f x) (f i))
  | .lookup t m i ok => still orc (lookupE P t (f m) (f i) ok h)
  | .insert t m k v => noOrc orc (insertE P t (f m) (f k) (f v) h)
  | .mapUpdate t m k v => noOrc orc (insertE P t (f m) (f k) (f v) h)
  | .typeAssert x _ asserted ok =>
    match assertE P (f x) asserted ok with
    | some v => some (v, [], [], orc)
    | none => noOrc orc (evPure P o f)
  | .extract x i =>
    match extractE (f x) i with
    | some v => some (v, [], [], orc)
    | none => noOrc orc (evPure P o f)
  | .call c =>
    match c.callee with
    | .builtin .len =>
      match c.args.toList, c.argTypes.toList with
      | [x], [t] =>
        match lenE P t (f x) h with
        | some (v, k) => some (v, [], k, orc)
        | none => noOrc orc (evPure P o f)
      | _, _ => none
    | .builtin .cap =>
      match c.args.toList, c.argTypes.toList with
      | [x], [t] =>
        match capE P t (f x) h with
        | some v => some (v, [], [], orc)
        | none => noOrc orc (evPure P o f)
      | _, _ => none
    | .builtin .append =>
      match c.args.toList, c.argTypes.toList with
      | [s, x], [t, xt] =>
        match f s with
        | .lit _ =>
          match orc with
          | .bit b :: orc' => noOrc orc' (appendE P t xt (f s) (f x) h fr (some b))
          | _ => none
        | _ => noOrc orc (appendE P t xt (f s) (f x) h fr none)
      | _, _ => none
    | .builtin .copy =>
      match c.args.toList, c.argTypes.toList with
      | [d, x], [t, xt] => noOrc orc (copyE P t xt (f d) (f x) h)
      | _, _ => none
    | .builtin _ => noOrc orc (evPure P o f)
    | _ =>
      bif externB P f c then noOrc orc (evPure P o f) else
      match orc with
      | .call L args H ret H' :: orc' =>
        match calleeE P f c with
        | some (g, as) => noOrc orc' (callE P G g as h fr L args H ret H')
        | none => none
      | _ => noOrc orc (evPure P o f)
  | _ => noOrc orc (evPure P o f)

end Go.Ax
