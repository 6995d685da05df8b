/-
  An abstract machine for Go functions (part 3): the evaluator of regions, code and whole functions.
-/
import Derived.Test.YtdfefemnlimeeaaDoorAx2
set_option linter.unusedVariables false
namespace Go.Ax

mutual
def AV.ids : AV → List Nat
  | .own id _ _ _ => [id]
  | .ptr id _ => [id]
  | .mp id => [id]
  | .agg cs => AV.idsL cs
  | .tup cs => AV.idsL cs
  | .ifc _ v => AV.ids v
  | .opt _ v => AV.ids v
  | .clo _ fs cp => AV.idsL fs ++ AV.idsL cp
  | .dead => []
  | .lit _ => []
  | .bts _ => []
  | .ro .. => []
  | .rp .. => []
def AV.idsL : List AV → List Nat
  | [] => []
  | a :: l => AV.ids a ++ AV.idsL l
end

def orcIds : List Orc → List Nat
  | .call L _ _ _ _ :: _ => L
  | _ => []

def ownIds : List Orc → List Nat
  | .own L _ _ :: _ => L
  | _ => []

def needE (f : Operand → AV) (o : Oper) (orc : List Orc) : List Nat := AV.idsL (o.op.operands.toList.map f) ++ (match o.op with | .call c => (match c.callee with | .builtin _ => [] | _ => orcIds orc) | .load _ _ => ownIds orc | _ => [])

def restrict (need : List Nat) (h : Heap) : Heap := fun j => bif elemB need j then h j else none

def usOk (need : List Nat) (h : Heap) (fr : Nat) : List (Nat × Row) → Bool
  | [] => true
  | (i, _) :: us => bif (elemB need i && (h i).isSome) || (Nat.ble fr i && Nat.blt i (fr + 64)) then usOk need h fr us else false

/-- Is the operation carried out? -/
def guardE (ops : Array Oper) (o : Oper) (tm : Nat → AV) (orc : List Orc) : Option (Bool × List Prop × List Orc) :=
  match o.guard with
  | none => some (true, [], orc)
  | some (j, want) =>
    match (nth ops.toList j).bind (·.dst) with
    | none => none
    | some d =>
      match tm d with
      | .lit (.bool b) =>
        match orc with
        | .bit x :: orc' => some (bif x then want else !want, [b = x], orc')
        | _ => none
      | .opt p (.lit (.bool b)) =>
        match orc with
        | .bit x :: orc' => some (x, [(p && (bif want then b else !b)) = x], orc')
        | _ => none
      | .lit (.tuple _) => some (false, [], orc)
      | _ => none

/-- A guarded operation, told for both ways: when is it carried out? -/
def bothE (ops : Array Oper) (o : Oper) (tm : Nat → AV) (orc : List Orc) : Option (Bool × Bool × List Orc) :=
  match orc with
  | .both x :: orc' =>
    match o.guard with
    | none => none
    | some (j, want) =>
      match (nth ops.toList j).bind (·.dst) with
      | none => none
      | some d =>
        match tm d with
        | .lit (.bool b) => some (x, (bif want then b else !b), orc')
        | .opt p (.lit (.bool b)) => some (x, p && (bif want then b else !b), orc')
        | _ => none
  | _ => none

def AV.force : AV → AV
  | .opt _ v => v
  | a => a

def forceC : AV → List Prop
  | .opt p _ => [p = true]
  | _ => []

def forceCs : List AV → List Prop
  | [] => []
  | a :: l => forceC a ++ forceCs l

/-- One operation, whose operands may be known under conditions. -/
def evOpF (P : Program) (G : Env) (o : Oper) (f : Operand → AV) (h : Heap) (fr : Nat) (orc : List Orc) : Option (AV × List (Nat × Row) × List Prop × List Orc) :=
  match o.op with
  | .pick c a b =>
    match pickE (f c).force (f a) (f b) with
    | some (v, us, k) => some (v, us, k ++ forceC (f c), orc)
    | none => none
  | op =>
    match evOp P G o (fun x => (f x).force) h fr orc with
    | some (v, us, k, orc') => some (v, us, k ++ forceCs (op.operands.toList.map f), orc')
    | none => none

def noUs : List (Nat × Row) → Bool
  | [] => true
  | _ => false

def stepE0 (P : Program) (G : Env) (ops : Array Oper) (o : Oper) (fr : Nat) (tm : Nat → AV) (h : Heap) (orc : List Orc) : Option (AV × List (Nat × Row) × List Prop × List Orc) :=
  match bothE ops o tm orc with
  | some (x, g, orc1) =>
    match evOpF P G o (evX tm) (restrict (needE (evX tm) o orc1) h) fr orc1 with
    | some (v, us, c', orc2) => bif noUs us then some (.opt x v, [], [x = g, x = true → AllP c'], orc2) else none
    | none => none
  | none =>
  match guardE ops o tm orc with
  | none => none
  | some (false, c, orc1) => some (.lit undef, [], c, orc1)
  | some (true, c, orc1) =>
    match evOpF P G o (evX tm) (restrict (needE (evX tm) o orc1) h) fr orc1 with
    | some (v, us, c', orc2) => bif usOk (needE (evX tm) o orc1) h fr us then some (v, us, c' ++ c, orc2) else none
    | none => none

def unname : List Orc → List Orc
  | .name _ :: orc => orc
  | orc => orc

/-- A step whose truth is given a name. -/
def stepE (P : Program) (G : Env) (ops : Array Oper) (o : Oper) (fr : Nat) (tm : Nat → AV) (h : Heap) (orc : List Orc) : Option (AV × List (Nat × Row) × List Prop × List Orc) :=
  match orc with
  | .name z :: orc' =>
    match stepE0 P G ops o fr tm h orc' with
    | some (.lit (.bool b), us, c, orc2) => some (.lit (.bool z), us, c ++ [z = b], orc2)
    | some (.opt x (.lit (.bool b)), us, c, orc2) => some (.opt x (.lit (.bool z)), us, c ++ [z = b], orc2)
    | _ => none
  | orc => stepE0 P G ops o fr tm h orc

def putT (tm : Nat → AV) (dst : Option Nat) (v : AV) : Nat → AV :=
  match dst with
  | none => tm
  | some d => fun t => bif Nat.beq t d then v else tm t

def dstOk (n : Nat) : Option Nat → Bool
  | none => true
  | some d => Nat.blt d n

/-- What an operation looked at and wrote, for the look at orders. -/
structure Foot where
  need : List Nat
  wr : List Nat

def needOf0 (ops : Array Oper) (o : Oper) (tm : Nat → AV) (orc : List Orc) : List Nat :=
  match bothE ops o tm orc with
  | some (_, _, orc1) => needE (evX tm) o orc1
  | none =>
  match guardE ops o tm orc with
  | some (true, _, orc1) => needE (evX tm) o orc1
  | _ => []

def needOf (ops : Array Oper) (o : Oper) (tm : Nat → AV) (orc : List Orc) : List Nat := needOf0 ops o tm (unname orc)

/-- The function that is put off. -/
def deferE (f : Operand → AV) (c : Call) : Option FuncId :=
  match c.callee with
  | .value x =>
    match f x with
    | .lit (.func (.func g) _ _) => some g
    | .clo (.func g) _ _ => some g
    | _ => none
  | _ => none

def evOps (P : Program) (G : Env) (ops : Array Oper) : List Oper → Nat → St → Option (St × List Foot)
  | [], _, s => some (s, [])
  | o :: l, k, s =>
    match o.op, o.guard with
    | .defer c, none =>
      match deferE (evX s.tm) c with
      | some g =>
        bif dstOk s.n o.dst then
          (evOps P G ops l (k + 1) { s with tm := putT s.tm o.dst (.lit undef), df := (g, []) :: s.df, c := IdleD P g :: s.c }).map fun (s', fs) => (s', ⟨[], []⟩ :: fs)
        else none
      | none => none
    | _, _ =>
      match stepE P G ops o (s.nx + 64 * k) s.tm s.h s.orc with
      | some (v, us, c, orc') =>
        bif dstOk s.n o.dst then
          (evOps P G ops l (k + 1) { s with tm := putT s.tm o.dst v, h := s.h.upd us, c := c ++ s.c, orc := orc' }).map
            fun (s', fs) => (s', ⟨needOf ops o s.tm s.orc, us.map (·.1)⟩ :: fs)
        else none
      | none => none

/-! ### Orders -/
def looksAtL (ops : Array Oper) (o : Oper) : List Nat :=
  (o.op.operands.toList.filterMap fun | .tmp t => some t | _ => none) ++
  (match o.guard with
   | some (g, _) => ((nth ops.toList g).bind (·.dst)).toList
   | none => [])

def meetB : List Nat → List Nat → Bool
  | [], _ => false
  | x :: l, m => bif elemB m x then true else meetB l m

def apartB (ops : Array Oper) (a : Oper) (fa : Foot) (b : Oper) (fb : Foot) : Bool :=
  !(meetB a.dst.toList (looksAtL ops b)) && !(meetB b.dst.toList (looksAtL ops a)) && !(meetB a.dst.toList b.dst.toList) &&
  !(meetB fa.wr fb.need) && !(meetB fb.wr fa.need) && !(meetB fa.wr fb.wr)

def edgeOn : List Edge → List Nat
  | [] => []
  | e :: l => bif Region.binds .any e then e.on :: edgeOn l else edgeOn l

/-- Which operations come before one for certain; 'tab' holds the earlier ones' lists. -/
def befRow (tab : List (List Nat)) : List Nat → List Nat
  | [] => []
  | j :: l => (j :: (nth tab j).getD []) ++ befRow tab l

def befTab : List Oper → List (List Nat) → List (List Nat)
  | [], tab => tab
  | o :: l, tab => befTab l (tab ++ [befRow tab (edgeOn o.after.toList)])

def pairsWith (ops : Array Oper) (bk : List Nat) (b : Oper) (fb : Foot) : Nat → List (Oper × Foot) → Bool
  | _, [] => true
  | i, (a, fa) :: l => bif elemB bk i || apartB ops a fa b fb then pairsWith ops bk b fb (i + 1) l else false

def edgesBelow (k : Nat) : List Nat → Bool
  | [] => true
  | j :: l => bif Nat.blt j k then edgesBelow k l else false

def pairsAll (ops : Array Oper) : List (Oper × Foot) → List (Oper × Foot) → List (List Nat) → Nat → Bool
  | _, [], _, _ => true
  | before, (o, f) :: l, bt, k =>
    match bt with
    | bk :: bt' => bif pairsWith ops bk o f 0 before && edgesBelow k (edgeOn o.after.toList) && (match o.op with | .defer _ => false | .select .. => false | _ => true) then pairsAll ops (before ++ [(o, f)]) l bt' (k + 1) else false
    | [] => false

def ordersOk (ops : Array Oper) (fs : List Foot) : Bool :=
  Nat.beq fs.length ops.toList.length && pairsAll ops [] (ops.toList.zip fs) (befTab ops.toList []) 0

/-! ### Rows told by value -/
mutual
def AV.closed : AV → Bool
  | .own .. => false
  | .ptr .. => false
  | .mp _ => false
  | .tup _ => false
  | .agg cs => AV.closedL cs
  | .ifc _ v => AV.closed v
  | .opt _ v => AV.closed v
  | .clo _ fs cp => AV.closedL fs && AV.closedL cp
  | .dead => true
  | .lit _ => true
  | .bts _ => true
  | .ro .. => true
  | .rp .. => true
def AV.closedL : List AV → Bool
  | [] => true
  | a :: l => AV.closed a && AV.closedL l
end

/-- A slice of a row, a pointer into it, by value. -/
def frzOwn (r : Row) (off len : Nat) : AV :=
  match r with
  | .bytes _ bs => .bts ((bs.drop off).take len)
  | .cells _ sz cs => .ro sz len (fun i => (cs.drop (off + i * sz)).take sz)
  | _ => .dead

mutual
def AV.frz (k : Nat) (r : Row) : AV → AV
  | .own id off len cap => bif Nat.beq id k then frzOwn r off len else .own id off len cap
  | .ptr id off => bif Nat.beq id k then .rp r.cs off else .ptr id off
  | .agg cs => .agg (AV.frzL k r cs)
  | .tup cs => .tup (AV.frzL k r cs)
  | .ifc t v => .ifc t (AV.frz k r v)
  | .opt p v => .opt p (AV.frz k r v)
  | .clo fn fs cp => .clo fn (AV.frzL k r fs) (AV.frzL k r cp)
  | .mp id => .mp id
  | .dead => .dead
  | .lit v => .lit v
  | .bts bs => .bts bs
  | .ro sz n get => .ro sz n get
  | .rp cs off => .rp cs off
def AV.frzL (k : Nat) (r : Row) : List AV → List AV
  | [] => []
  | a :: l => AV.frz k r a :: AV.frzL k r l
end

def frzE (k : Nat) (r : Row) : List (Int × AV) → List (Int × AV)
  | [] => []
  | (n, a) :: l => (n, AV.frz k r a) :: frzE k r l

def frzRow (k : Nat) (r : Row) : Row → Row
  | .gone => .gone
  | .cells e sz cs => .cells e sz (AV.frzL k r cs)
  | .bytes e bs => .bytes e bs
  | .map kd es => .map kd (frzE k r es)

/-- May a row be told by value? -/
def canFrz (r : Row) : Bool :=
  match r with
  | .bytes .. => true
  | .cells _ _ cs => AV.closedL cs
  | _ => false

def Heap.frz (k : Nat) (r : Row) (h : Heap) : Heap := fun j => (h j).map fun x => bif Nat.beq j k then .gone else frzRow k r x

/-- The rows that are told by value from a region on. -/
def frzGo (rid : Nat) : List Orc → St → Option St
  | .frz q t :: l, s =>
    bif Nat.beq q rid then
      match s.tm t with
      | .own id _ _ _ =>
        match s.h id with
        | some r => bif canFrz r then frzGo rid l { s with tm := fun u => (s.tm u).frz id r, h := s.h.frz id r } else frzGo rid l s
        | none => none
      | _ => frzGo rid l s
    else some { s with orc := .frz q t :: l }
  | l, s => some { s with orc := l }

/-! ### Code -/
def assocT : List (Nat × AV) → Nat → Option AV
  | [], _ => none
  | (t, v) :: l, u => bif Nat.beq t u then some v else assocT l u

def leSlots (L : List Nat) (tm : Nat → AV) : List (Nat × AV) → Prop
  | [] => True
  | (t, a) :: l => Le ((tm t).ren (idxIn L 0)) a ∧ leSlots L tm l

def slotsOk (n : Nat) : List (Nat × AV) → Bool
  | [] => true
  | (t, _) :: l => bif Nat.blt t n then slotsOk n l else false

def loopE (P : Program) (G : Env) (body : Code) (s : St) (orc : List Orc) (L : List Nat) (vals : List (Nat × AV)) (H : List Row) (ex : AExit) (vals' : List (Nat × AV)) (H' : List Row) : Option (AExit × St) :=
  bif nodupB L && allLive s.h L && Nat.ble L.length H'.length && slotsOk s.n vals then
    some (ex, { s with
      tm := fun t => ((assocT vals' t).map (AV.ren (backTo L s.nx))).getD .dead
      h := s.h.upd (backRows L s.nx 0 H')
      nx := s.nx + H'.length
      c := CodeC P G s.n (.loop body) vals H ex vals' H' :: leSlots L s.tm vals :: leRows L s.h L H :: s.c
      orc := orc })
  else none

/-- Some rounds of a loop, one after the other. -/
def iterE (f : St → Option (AExit × St)) : Nat → St → Option (AExit × St)
  | 0, _ => none
  | n + 1, s =>
    match f s with
    | some (.normal, s') => iterE f n s'
    | r => r

def evCode (P : Program) (G : Env) : Code → St → Option (AExit × St)
  | .skip, s => some (.normal, s)
  | .label _, s => some (.normal, s)
  | .region rid ops draw, s =>
    match frzGo rid s.orc s with
    | some s =>
      match evOps P G ops ops.toList 0 s with
      | some (s', fs) => bif !draw || ordersOk ops fs then some (.normal, { s' with nx := s.nx + 64 * ops.toList.length }) else none
      | none => none
    | none => none
  | .seq a b, s =>
    match evCode P G a s with
    | some (.normal, s') => evCode P G b s'
    | r => r
  | .cond x a b, s =>
    match evX s.tm x, s.orc with
    | .lit (.bool t), .bit o :: orc' => bif o then evCode P G a { s with c := (t = o) :: s.c, orc := orc' } else evCode P G b { s with c := (t = o) :: s.c, orc := orc' }
    | .lit (.bool t), .auto :: _ => bif t then evCode P G a s else evCode P G b s
    | _, _ => none
  | .block id c, s =>
    match evCode P G c s with
    | some (.exit i, s') => bif Nat.beq i id then some (.normal, s') else some (.exit i, s')
    | r => r
  | .exit id, s => some (.exit id, s)
  | .ret, s => some (.ret, s)
  | .scope c, s => evCode P G c s
  | .loop body, s =>
    match s.orc with
    | .loop L vals H ex vals' H' :: orc' => loopE P G body s orc' L vals H ex vals' H'
    | .turns n :: orc' => iterE (fun s => evCode P G body s) n { s with orc := orc' }
    | _ => none
  | _, _ => none

/-! ### A piece of code from its slots; a whole function -/
def slotOf (vals : List (Nat × AV)) (t : Nat) : AV := (assocT vals t).getD .dead

def startC (n : Nat) (vals : List (Nat × AV)) (H : List Row) (orc : List Orc) : St :=
  { n := n, tm := slotOf vals, h := hL H, nx := H.length, df := [], c := [], orc := orc }

def rangeB : Nat → Nat → List Nat → Bool
  | _, 0, _ => true
  | k, n + 1, x :: l => bif Nat.beq x k then rangeB (k + 1) n l else false
  | _, _ + 1, [] => false

def inHeap (h : Heap) : List Nat → Bool
  | [] => true
  | id :: l => match h id with | some _ => inHeap h l | none => false

def outRows (L : List Nat) (h : Heap) : List Nat → List Row
  | [] => []
  | id :: l => ((h id).getD .gone).ren (idxIn L 0) :: outRows L h l

def outSlots (L : List Nat) (tm : Nat → AV) : List Nat → List (Nat × AV)
  | [] => []
  | t :: l => (t, (tm t).ren (idxIn L 0)) :: outSlots L tm l

def finOk (k : Nat) (L : List Nat) (h : Heap) : Bool := rangeB 0 k L && nodupB L && inHeap h L

/-- A piece of code: its exit, the slots asked for, the rows. -/
def evPiece (P : Program) (G : Env) (n : Nat) (c : Code) (vals : List (Nat × AV)) (H : List Row) (orc : List Orc) (ts : List Nat) : Option (AExit × List (Nat × AV) × List Row × List Prop) :=
  match evCode P G c (startC n vals H orc) with
  | some (ex, s) =>
    match s.orc, s.df with
    | [.fin L], [] => bif finOk H.length L s.h then some (ex, outSlots L s.tm ts, outRows L s.h L, s.c) else none
    | _, _ => none
  | none => none

def finL : List Orc → Option (List Nat)
  | [.fin L] => some L
  | [.auto, .fin L] => some L
  | _ => none

def argT : List AV → Nat → AV
  | [], _ => .lit undef
  | a :: _, 0 => a
  | _ :: l, t + 1 => argT l t

def startF (n : Nat) (args : List AV) (H : List Row) (orc : List Orc) : St :=
  { n := n, tm := argT args, h := hL H, nx := H.length, df := [], c := [], orc := orc }

def resE (P : Program) (G : Env) (tm : Nat → AV) (h : Heap) : List ResultVar → Option (List AV × List Prop)
  | [] => some ([], [])
  | .tmp t :: l =>
    match resE P G tm h l with
    | some (vs, c) => some (tm t :: vs, c)
    | none => none
  | .cell a t :: l =>
    match loadE P G t (tm a) h none, resE P G tm h l with
    | some (v, c), some (vs, c') => some (v :: vs, c ++ c')
    | _, _ => none

def oneOr : List AV → AV
  | [v] => v
  | vs => .tup vs

def evFun (P : Program) (G : Env) (fn : Func) (args : List AV) (H : List Row) (orc : List Orc) : Option (AV × List Row × List Prop) :=
  match fn.body with
  | none => none
  | some body =>
    bif Nat.ble args.length fn.ntmps then
      match evCode P G body (startF fn.ntmps args H orc) with
      | some (ex, s) =>
        match ex, finL s.orc with
        | .exit _, _ => none
        | _, some L =>
          match resE P G s.tm s.h fn.results.toList with
          | some (vs, c) => bif finOk H.length L s.h then some ((oneOr vs).ren (idxIn L 0), outRows L s.h L, c ++ s.c) else none
          | none => none
        | _, _ => none
      | none => none
    else none

end Go.Ax
