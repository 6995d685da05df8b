/-
  NARROWER THAN 'FOR EVERY INPUT', by the rows' own cells (each row's printed sentence says how): FnReadLong: loops, laid · FnReadUint: loops, laid · FnReadLifetime: laid · FnReadMapHead: loops, laid · FnReadArrayByte: loops, laid · FnReadArrayBoolean: loops, laid · FnReadArrayDouble: loops, laid · FnReadInteger: loops, laid · FnReadArrayBinary: loops, laid.
  DERIVED. THE GIVEN ROWS OF THIS SEAT. 9 by the template 'for every input the law returns true; each argument reads behind the call as it read before'; 0 by the template 'total and deterministic' (their statements: YtbdfpnhcincimaaDoorTotals.lean).
  GIVEN WITH THE SEED: the statements are not yours to turn. If you find one false, say at which input.
  Laid BY PROGRAM, IN A SANDBOX (cutbox-rows.mjs): the forced cells as the released guide's own fill.sh prints them over the translation ae31d7be3d719e1d… (all of the seat's roots in one cut). By AI agents, Wed Nov 11 2026. No macro, syntax, notation, axiom, sorry.
-/
import Derived.Test.YtbdfpnhcincimaaDoorChecked
import GoSem.PinnedTables
import GoSem.Claim
import GoSem.ClaimJoined
import GoSem.ClaimMapViews
import Derived.JoinedTies
import Derived.KernelRfl
namespace Go.Proofs.YtbdfpnhcincimaaDoor
/- THE CELL 'sum', in the pinned program and in every row, IS THE sha256 OF THE DUMP (.gsa) THAT YtbdfpnhcincimaaDoorProg.lean LOADS. Nothing in Lean hashes anything: it is a label: what it is worth is what the hold of that sum in a sandbox is worth. -/
noncomputable def Tryd.pinned : Pinned := { name := "ytbdfpnhcincimaadoor", sum := "ae31d7be3d719e1d8930b95aedee0b7020ef48cb35225d5545ccc0b20c994c83", checked := Tryd.checked }
namespace Rows
def none {H : Type} : Left H := { results := [], args := [] }

/- WHAT THE LISTED PACKAGE-LEVEL VARIABLES READ AS WHEN THE CALL BEGINS. Each datum BY PROGRAM (the guide's laid-datum.mjs) off the statement by which the dump's own 'gosem.cut.vars' lays the variable. In a bare row this is a premise. The card (YtbdfpnhcincimaaDoorCards.lean) ties it to the program's text. -/
def laid_unicode_utf8_acceptRanges {H : Type} : DataW H := .agg [.agg [.lit (.int .u8 128), .lit (.int .u8 191)], .agg [.lit (.int .u8 160), .lit (.int .u8 191)], .agg [.lit (.int .u8 128), .lit (.int .u8 159)], .agg [.lit (.int .u8 144), .lit (.int .u8 191)], .agg [.lit (.int .u8 128), .lit (.int .u8 143)], .agg [.lit (.int .u8 0), .lit (.int .u8 0)], .agg [.lit (.int .u8 0), .lit (.int .u8 0)], .agg [.lit (.int .u8 0), .lit (.int .u8 0)], .agg [.lit (.int .u8 0), .lit (.int .u8 0)], .agg [.lit (.int .u8 0), .lit (.int .u8 0)], .agg [.lit (.int .u8 0), .lit (.int .u8 0)], .agg [.lit (.int .u8 0), .lit (.int .u8 0)], .agg [.lit (.int .u8 0), .lit (.int .u8 0)], .agg [.lit (.int .u8 0), .lit (.int .u8 0)], .agg [.lit (.int .u8 0), .lit (.int .u8 0)], .agg [.lit (.int .u8 0), .lit (.int .u8 0)]]
def laid_io_EOF {H : Type} : DataW H := .iface "*errors.errorString" (.ptr (.agg [.lit (.string [69, 79, 70])]))
/-- One of Go's own tables, pinned by name: the form's constant. -/
def laid_unicode_utf8_first : DataW Unit := Go.Pinned.utf8First

/-- 'laws.FnReadLong': WHATEVER THE INPUT: true; the input reads as it did. -/
def fnReadLongSpec : ChangeSpec := { name := "fnReadLong", fn := fun _ => fun
  | [d] => { results := [.lit (.bool true)], args := [d] }
  | _ => none }
def fnReadLongRow : OpenClaim := { program := "ytbdfpnhcincimaadoor", sum := "ae31d7be3d719e1d8930b95aedee0b7020ef48cb35225d5545ccc0b20c994c83", func := "given.example/pub-saddlebag/laws.FnReadLong", spec := "fnReadLong", recurses := true, named := ["io.EOF", "encoding/binary.BigEndian", "unicode/utf8.first", "unicode/utf8.acceptRanges"], loops := true, apart := false, laid := [("unicode/utf8.acceptRanges", laid_unicode_utf8_acceptRanges), ("io.EOF", laid_io_EOF), ("unicode/utf8.first", laid_unicode_utf8_first)] }
def FnReadLongSaid : Prop := fnReadLongRow.holds Tryd.pinned (OpenSpec.ofChange fnReadLongSpec)

/-- ITS FALSE NEIGHBOUR: 'it returns false'. Refute it at one input. -/
def fnReadLongWrong : ChangeSpec := { name := "fnReadLong", fn := fun _ => fun
  | [d] => { results := [.lit (.bool false)], args := [d] }
  | _ => none }
def FnReadLongWrongFalsely : Prop := fnReadLongRow.holds Tryd.pinned (OpenSpec.ofChange fnReadLongWrong)

/-- 'laws.FnReadUint': WHATEVER THE INPUT: true; the input reads as it did. -/
def fnReadUintSpec : ChangeSpec := { name := "fnReadUint", fn := fun _ => fun
  | [d] => { results := [.lit (.bool true)], args := [d] }
  | _ => none }
def fnReadUintRow : OpenClaim := { program := "ytbdfpnhcincimaadoor", sum := "ae31d7be3d719e1d8930b95aedee0b7020ef48cb35225d5545ccc0b20c994c83", func := "given.example/pub-saddlebag/laws.FnReadUint", spec := "fnReadUint", recurses := true, named := ["io.EOF", "encoding/binary.BigEndian", "unicode/utf8.first", "unicode/utf8.acceptRanges"], loops := true, apart := false, laid := [("unicode/utf8.acceptRanges", laid_unicode_utf8_acceptRanges), ("io.EOF", laid_io_EOF), ("unicode/utf8.first", laid_unicode_utf8_first)] }
def FnReadUintSaid : Prop := fnReadUintRow.holds Tryd.pinned (OpenSpec.ofChange fnReadUintSpec)

/-- ITS FALSE NEIGHBOUR: 'it returns false'. Refute it at one input. -/
def fnReadUintWrong : ChangeSpec := { name := "fnReadUint", fn := fun _ => fun
  | [d] => { results := [.lit (.bool false)], args := [d] }
  | _ => none }
def FnReadUintWrongFalsely : Prop := fnReadUintRow.holds Tryd.pinned (OpenSpec.ofChange fnReadUintWrong)

/-- 'laws.FnReadLifetime': WHATEVER THE INPUT: true; the input reads as it did. -/
def fnReadLifetimeSpec : ChangeSpec := { name := "fnReadLifetime", fn := fun _ => fun
  | [d1, d2, d3] => { results := [.lit (.bool true)], args := [d1, d2, d3] }
  | _ => none }
def fnReadLifetimeRow : OpenClaim := { program := "ytbdfpnhcincimaadoor", sum := "ae31d7be3d719e1d8930b95aedee0b7020ef48cb35225d5545ccc0b20c994c83", func := "given.example/pub-saddlebag/laws.FnReadLifetime", spec := "fnReadLifetime", recurses := true, named := ["io.EOF", "encoding/binary.BigEndian"], apart := false, laid := [("io.EOF", laid_io_EOF)] }
def FnReadLifetimeSaid : Prop := fnReadLifetimeRow.holds Tryd.pinned (OpenSpec.ofChange fnReadLifetimeSpec)

/-- ITS FALSE NEIGHBOUR: 'it returns false'. Refute it at one input. -/
def fnReadLifetimeWrong : ChangeSpec := { name := "fnReadLifetime", fn := fun _ => fun
  | [d1, d2, d3] => { results := [.lit (.bool false)], args := [d1, d2, d3] }
  | _ => none }
def FnReadLifetimeWrongFalsely : Prop := fnReadLifetimeRow.holds Tryd.pinned (OpenSpec.ofChange fnReadLifetimeWrong)

/-- 'laws.FnReadMapHead': WHATEVER THE INPUT: true; the input reads as it did. -/
def fnReadMapHeadSpec : ChangeSpec := { name := "fnReadMapHead", fn := fun _ => fun
  | [d] => { results := [.lit (.bool true)], args := [d] }
  | _ => none }
def fnReadMapHeadRow : OpenClaim := { program := "ytbdfpnhcincimaadoor", sum := "ae31d7be3d719e1d8930b95aedee0b7020ef48cb35225d5545ccc0b20c994c83", func := "given.example/pub-saddlebag/laws.FnReadMapHead", spec := "fnReadMapHead", recurses := true, named := ["io.EOF", "encoding/binary.BigEndian", "unicode/utf8.first", "unicode/utf8.acceptRanges"], loops := true, apart := false, laid := [("unicode/utf8.acceptRanges", laid_unicode_utf8_acceptRanges), ("io.EOF", laid_io_EOF), ("unicode/utf8.first", laid_unicode_utf8_first)] }
def FnReadMapHeadSaid : Prop := fnReadMapHeadRow.holds Tryd.pinned (OpenSpec.ofChange fnReadMapHeadSpec)

/-- ITS FALSE NEIGHBOUR: 'it returns false'. Refute it at one input. -/
def fnReadMapHeadWrong : ChangeSpec := { name := "fnReadMapHead", fn := fun _ => fun
  | [d] => { results := [.lit (.bool false)], args := [d] }
  | _ => none }
def FnReadMapHeadWrongFalsely : Prop := fnReadMapHeadRow.holds Tryd.pinned (OpenSpec.ofChange fnReadMapHeadWrong)

/-- 'laws.FnReadArrayByte': WHATEVER THE INPUT: true; the input reads as it did. -/
def fnReadArrayByteSpec : ChangeSpec := { name := "fnReadArrayByte", fn := fun _ => fun
  | [d] => { results := [.lit (.bool true)], args := [d] }
  | _ => none }
def fnReadArrayByteRow : OpenClaim := { program := "ytbdfpnhcincimaadoor", sum := "ae31d7be3d719e1d8930b95aedee0b7020ef48cb35225d5545ccc0b20c994c83", func := "given.example/pub-saddlebag/laws.FnReadArrayByte", spec := "fnReadArrayByte", recurses := true, named := ["encoding/binary.BigEndian", "io.EOF", "unicode/utf8.first", "unicode/utf8.acceptRanges"], loops := true, apart := false, laid := [("unicode/utf8.acceptRanges", laid_unicode_utf8_acceptRanges), ("io.EOF", laid_io_EOF), ("unicode/utf8.first", laid_unicode_utf8_first)] }
def FnReadArrayByteSaid : Prop := fnReadArrayByteRow.holds Tryd.pinned (OpenSpec.ofChange fnReadArrayByteSpec)

/-- ITS FALSE NEIGHBOUR: 'it returns false'. Refute it at one input. -/
def fnReadArrayByteWrong : ChangeSpec := { name := "fnReadArrayByte", fn := fun _ => fun
  | [d] => { results := [.lit (.bool false)], args := [d] }
  | _ => none }
def FnReadArrayByteWrongFalsely : Prop := fnReadArrayByteRow.holds Tryd.pinned (OpenSpec.ofChange fnReadArrayByteWrong)

/-- 'laws.FnReadArrayBoolean': WHATEVER THE INPUT: true; the input reads as it did. -/
def fnReadArrayBooleanSpec : ChangeSpec := { name := "fnReadArrayBoolean", fn := fun _ => fun
  | [d] => { results := [.lit (.bool true)], args := [d] }
  | _ => none }
def fnReadArrayBooleanRow : OpenClaim := { program := "ytbdfpnhcincimaadoor", sum := "ae31d7be3d719e1d8930b95aedee0b7020ef48cb35225d5545ccc0b20c994c83", func := "given.example/pub-saddlebag/laws.FnReadArrayBoolean", spec := "fnReadArrayBoolean", recurses := true, named := ["encoding/binary.BigEndian", "io.EOF", "unicode/utf8.first", "unicode/utf8.acceptRanges"], loops := true, apart := false, laid := [("unicode/utf8.acceptRanges", laid_unicode_utf8_acceptRanges), ("io.EOF", laid_io_EOF), ("unicode/utf8.first", laid_unicode_utf8_first)] }
def FnReadArrayBooleanSaid : Prop := fnReadArrayBooleanRow.holds Tryd.pinned (OpenSpec.ofChange fnReadArrayBooleanSpec)

/-- ITS FALSE NEIGHBOUR: 'it returns false'. Refute it at one input. -/
def fnReadArrayBooleanWrong : ChangeSpec := { name := "fnReadArrayBoolean", fn := fun _ => fun
  | [d] => { results := [.lit (.bool false)], args := [d] }
  | _ => none }
def FnReadArrayBooleanWrongFalsely : Prop := fnReadArrayBooleanRow.holds Tryd.pinned (OpenSpec.ofChange fnReadArrayBooleanWrong)

/-- 'laws.FnReadArrayDouble': WHATEVER THE INPUT: true; the input reads as it did. -/
def fnReadArrayDoubleSpec : ChangeSpec := { name := "fnReadArrayDouble", fn := fun _ => fun
  | [d] => { results := [.lit (.bool true)], args := [d] }
  | _ => none }
def fnReadArrayDoubleRow : OpenClaim := { program := "ytbdfpnhcincimaadoor", sum := "ae31d7be3d719e1d8930b95aedee0b7020ef48cb35225d5545ccc0b20c994c83", func := "given.example/pub-saddlebag/laws.FnReadArrayDouble", spec := "fnReadArrayDouble", inPlace := ["math.Float64frombits", "math.Float64bits"], recurses := true, named := ["encoding/binary.BigEndian", "io.EOF", "unicode/utf8.first", "unicode/utf8.acceptRanges"], loops := true, apart := false, laid := [("unicode/utf8.acceptRanges", laid_unicode_utf8_acceptRanges), ("io.EOF", laid_io_EOF), ("unicode/utf8.first", laid_unicode_utf8_first)] }
def FnReadArrayDoubleSaid : Prop := fnReadArrayDoubleRow.holds Tryd.pinned (OpenSpec.ofChange fnReadArrayDoubleSpec)

/-- ITS FALSE NEIGHBOUR: 'it returns false'. Refute it at one input. -/
def fnReadArrayDoubleWrong : ChangeSpec := { name := "fnReadArrayDouble", fn := fun _ => fun
  | [d] => { results := [.lit (.bool false)], args := [d] }
  | _ => none }
def FnReadArrayDoubleWrongFalsely : Prop := fnReadArrayDoubleRow.holds Tryd.pinned (OpenSpec.ofChange fnReadArrayDoubleWrong)

/-- 'laws.FnReadInteger': WHATEVER THE INPUT: true; the input reads as it did. -/
def fnReadIntegerSpec : ChangeSpec := { name := "fnReadInteger", fn := fun _ => fun
  | [d] => { results := [.lit (.bool true)], args := [d] }
  | _ => none }
def fnReadIntegerRow : OpenClaim := { program := "ytbdfpnhcincimaadoor", sum := "ae31d7be3d719e1d8930b95aedee0b7020ef48cb35225d5545ccc0b20c994c83", func := "given.example/pub-saddlebag/laws.FnReadInteger", spec := "fnReadInteger", recurses := true, named := ["io.EOF", "encoding/binary.BigEndian", "unicode/utf8.first", "unicode/utf8.acceptRanges"], loops := true, apart := false, laid := [("unicode/utf8.acceptRanges", laid_unicode_utf8_acceptRanges), ("io.EOF", laid_io_EOF), ("unicode/utf8.first", laid_unicode_utf8_first)] }
def FnReadIntegerSaid : Prop := fnReadIntegerRow.holds Tryd.pinned (OpenSpec.ofChange fnReadIntegerSpec)

/-- ITS FALSE NEIGHBOUR: 'it returns false'. Refute it at one input. -/
def fnReadIntegerWrong : ChangeSpec := { name := "fnReadInteger", fn := fun _ => fun
  | [d] => { results := [.lit (.bool false)], args := [d] }
  | _ => none }
def FnReadIntegerWrongFalsely : Prop := fnReadIntegerRow.holds Tryd.pinned (OpenSpec.ofChange fnReadIntegerWrong)

/-- 'laws.FnReadArrayBinary': WHATEVER THE INPUT: true; the input reads as it did. -/
def fnReadArrayBinarySpec : ChangeSpec := { name := "fnReadArrayBinary", fn := fun _ => fun
  | [d] => { results := [.lit (.bool true)], args := [d] }
  | _ => none }
def fnReadArrayBinaryRow : OpenClaim := { program := "ytbdfpnhcincimaadoor", sum := "ae31d7be3d719e1d8930b95aedee0b7020ef48cb35225d5545ccc0b20c994c83", func := "given.example/pub-saddlebag/laws.FnReadArrayBinary", spec := "fnReadArrayBinary", recurses := true, named := ["encoding/binary.BigEndian", "io.EOF", "unicode/utf8.first", "unicode/utf8.acceptRanges"], loops := true, apart := false, laid := [("unicode/utf8.acceptRanges", laid_unicode_utf8_acceptRanges), ("io.EOF", laid_io_EOF), ("unicode/utf8.first", laid_unicode_utf8_first)] }
def FnReadArrayBinarySaid : Prop := fnReadArrayBinaryRow.holds Tryd.pinned (OpenSpec.ofChange fnReadArrayBinarySpec)

/-- ITS FALSE NEIGHBOUR: 'it returns false'. Refute it at one input. -/
def fnReadArrayBinaryWrong : ChangeSpec := { name := "fnReadArrayBinary", fn := fun _ => fun
  | [d] => { results := [.lit (.bool false)], args := [d] }
  | _ => none }
def FnReadArrayBinaryWrongFalsely : Prop := fnReadArrayBinaryRow.holds Tryd.pinned (OpenSpec.ofChange fnReadArrayBinaryWrong)

/- THE SECOND FORM. 'bulk': how many values and letters a reading holds, each counted each time it is reached (what is shared counts as often as it is met; a slice's spare places count too). A statement '..UptoSaid' is the law's where the arguments, and the package variables that the reading takes, are together of bulk at most 1048576: NARROWER than '..Said'. Prove '..Said' where nothing that the law and all that it calls make is longer than what came in: it says more and counts as full. Else prove '..UptoSaid'. A law counts once. -/
mutual
def uptoBulk {H : Type} : DataW H → Nat
  | .lit (.string bytes) => bytes.length + 1
  | .lit _ => 1
  | .nil => 1
  | .ptr d => uptoBulk d + 1
  | .slice elems spare => uptoBulkAll elems + uptoBulkAll spare + 1
  | .agg parts => uptoBulkAll parts + 1
  | .iface _ d => uptoBulk d + 1
  | .map entries => uptoBulkEntries entries + 1
  | .held _ => 1
def uptoBulkAll {H : Type} : List (DataW H) → Nat
  | [] => 0
  | d :: r => uptoBulk d + uptoBulkAll r
def uptoBulkEntries {H : Type} : List (Lit × DataW H) → Nat
  | [] => 0
  | x :: r => uptoBulkEntry x + uptoBulkEntries r
def uptoBulkEntry {H : Type} : Lit × DataW H → Nat
  | (.string bytes, d) => bytes.length + uptoBulk d + 1
  | (_, d) => uptoBulk d + 1
 end
def uptoSmall : (H : Type) → List (DataW H) → Bool := fun _ ds => decide (uptoBulkAll ds ≤ 1048576)
def OpenSpec.upto (s : _root_.Go.ChangeSpec) : _root_.Go.OpenSpec := { _root_.Go.OpenSpec.ofChange s with cond := some uptoSmall }

/-- 'laws.FnReadLong', WHERE WHAT IT READS IS OF BULK AT MOST 1048576: true; the input reads as it did. -/
def fnReadLongUptoRow : OpenClaim := { program := "ytbdfpnhcincimaadoor", sum := "ae31d7be3d719e1d8930b95aedee0b7020ef48cb35225d5545ccc0b20c994c83", func := "given.example/pub-saddlebag/laws.FnReadLong", spec := "fnReadLong", recurses := true, named := ["io.EOF", "encoding/binary.BigEndian", "unicode/utf8.first", "unicode/utf8.acceptRanges"], loops := true, apart := false, laid := [("unicode/utf8.acceptRanges", laid_unicode_utf8_acceptRanges), ("io.EOF", laid_io_EOF), ("unicode/utf8.first", laid_unicode_utf8_first)], narrowed := true }
def FnReadLongUptoSaid : Prop := fnReadLongUptoRow.holds Tryd.pinned (OpenSpec.upto fnReadLongSpec)

/-- 'laws.FnReadUint', WHERE WHAT IT READS IS OF BULK AT MOST 1048576: true; the input reads as it did. -/
def fnReadUintUptoRow : OpenClaim := { program := "ytbdfpnhcincimaadoor", sum := "ae31d7be3d719e1d8930b95aedee0b7020ef48cb35225d5545ccc0b20c994c83", func := "given.example/pub-saddlebag/laws.FnReadUint", spec := "fnReadUint", recurses := true, named := ["io.EOF", "encoding/binary.BigEndian", "unicode/utf8.first", "unicode/utf8.acceptRanges"], loops := true, apart := false, laid := [("unicode/utf8.acceptRanges", laid_unicode_utf8_acceptRanges), ("io.EOF", laid_io_EOF), ("unicode/utf8.first", laid_unicode_utf8_first)], narrowed := true }
def FnReadUintUptoSaid : Prop := fnReadUintUptoRow.holds Tryd.pinned (OpenSpec.upto fnReadUintSpec)

/-- 'laws.FnReadLifetime', WHERE WHAT IT READS IS OF BULK AT MOST 1048576: true; the input reads as it did. -/
def fnReadLifetimeUptoRow : OpenClaim := { program := "ytbdfpnhcincimaadoor", sum := "ae31d7be3d719e1d8930b95aedee0b7020ef48cb35225d5545ccc0b20c994c83", func := "given.example/pub-saddlebag/laws.FnReadLifetime", spec := "fnReadLifetime", recurses := true, named := ["io.EOF", "encoding/binary.BigEndian"], apart := false, laid := [("io.EOF", laid_io_EOF)], narrowed := true }
def FnReadLifetimeUptoSaid : Prop := fnReadLifetimeUptoRow.holds Tryd.pinned (OpenSpec.upto fnReadLifetimeSpec)

/-- 'laws.FnReadMapHead', WHERE WHAT IT READS IS OF BULK AT MOST 1048576: true; the input reads as it did. -/
def fnReadMapHeadUptoRow : OpenClaim := { program := "ytbdfpnhcincimaadoor", sum := "ae31d7be3d719e1d8930b95aedee0b7020ef48cb35225d5545ccc0b20c994c83", func := "given.example/pub-saddlebag/laws.FnReadMapHead", spec := "fnReadMapHead", recurses := true, named := ["io.EOF", "encoding/binary.BigEndian", "unicode/utf8.first", "unicode/utf8.acceptRanges"], loops := true, apart := false, laid := [("unicode/utf8.acceptRanges", laid_unicode_utf8_acceptRanges), ("io.EOF", laid_io_EOF), ("unicode/utf8.first", laid_unicode_utf8_first)], narrowed := true }
def FnReadMapHeadUptoSaid : Prop := fnReadMapHeadUptoRow.holds Tryd.pinned (OpenSpec.upto fnReadMapHeadSpec)

/-- 'laws.FnReadArrayByte', WHERE WHAT IT READS IS OF BULK AT MOST 1048576: true; the input reads as it did. -/
def fnReadArrayByteUptoRow : OpenClaim := { program := "ytbdfpnhcincimaadoor", sum := "ae31d7be3d719e1d8930b95aedee0b7020ef48cb35225d5545ccc0b20c994c83", func := "given.example/pub-saddlebag/laws.FnReadArrayByte", spec := "fnReadArrayByte", recurses := true, named := ["encoding/binary.BigEndian", "io.EOF", "unicode/utf8.first", "unicode/utf8.acceptRanges"], loops := true, apart := false, laid := [("unicode/utf8.acceptRanges", laid_unicode_utf8_acceptRanges), ("io.EOF", laid_io_EOF), ("unicode/utf8.first", laid_unicode_utf8_first)], narrowed := true }
def FnReadArrayByteUptoSaid : Prop := fnReadArrayByteUptoRow.holds Tryd.pinned (OpenSpec.upto fnReadArrayByteSpec)

/-- 'laws.FnReadArrayBoolean', WHERE WHAT IT READS IS OF BULK AT MOST 1048576: true; the input reads as it did. -/
def fnReadArrayBooleanUptoRow : OpenClaim := { program := "ytbdfpnhcincimaadoor", sum := "ae31d7be3d719e1d8930b95aedee0b7020ef48cb35225d5545ccc0b20c994c83", func := "given.example/pub-saddlebag/laws.FnReadArrayBoolean", spec := "fnReadArrayBoolean", recurses := true, named := ["encoding/binary.BigEndian", "io.EOF", "unicode/utf8.first", "unicode/utf8.acceptRanges"], loops := true, apart := false, laid := [("unicode/utf8.acceptRanges", laid_unicode_utf8_acceptRanges), ("io.EOF", laid_io_EOF), ("unicode/utf8.first", laid_unicode_utf8_first)], narrowed := true }
def FnReadArrayBooleanUptoSaid : Prop := fnReadArrayBooleanUptoRow.holds Tryd.pinned (OpenSpec.upto fnReadArrayBooleanSpec)

/-- 'laws.FnReadArrayDouble', WHERE WHAT IT READS IS OF BULK AT MOST 1048576: true; the input reads as it did. -/
def fnReadArrayDoubleUptoRow : OpenClaim := { program := "ytbdfpnhcincimaadoor", sum := "ae31d7be3d719e1d8930b95aedee0b7020ef48cb35225d5545ccc0b20c994c83", func := "given.example/pub-saddlebag/laws.FnReadArrayDouble", spec := "fnReadArrayDouble", inPlace := ["math.Float64frombits", "math.Float64bits"], recurses := true, named := ["encoding/binary.BigEndian", "io.EOF", "unicode/utf8.first", "unicode/utf8.acceptRanges"], loops := true, apart := false, laid := [("unicode/utf8.acceptRanges", laid_unicode_utf8_acceptRanges), ("io.EOF", laid_io_EOF), ("unicode/utf8.first", laid_unicode_utf8_first)], narrowed := true }
def FnReadArrayDoubleUptoSaid : Prop := fnReadArrayDoubleUptoRow.holds Tryd.pinned (OpenSpec.upto fnReadArrayDoubleSpec)

/-- 'laws.FnReadInteger', WHERE WHAT IT READS IS OF BULK AT MOST 1048576: true; the input reads as it did. -/
def fnReadIntegerUptoRow : OpenClaim := { program := "ytbdfpnhcincimaadoor", sum := "ae31d7be3d719e1d8930b95aedee0b7020ef48cb35225d5545ccc0b20c994c83", func := "given.example/pub-saddlebag/laws.FnReadInteger", spec := "fnReadInteger", recurses := true, named := ["io.EOF", "encoding/binary.BigEndian", "unicode/utf8.first", "unicode/utf8.acceptRanges"], loops := true, apart := false, laid := [("unicode/utf8.acceptRanges", laid_unicode_utf8_acceptRanges), ("io.EOF", laid_io_EOF), ("unicode/utf8.first", laid_unicode_utf8_first)], narrowed := true }
def FnReadIntegerUptoSaid : Prop := fnReadIntegerUptoRow.holds Tryd.pinned (OpenSpec.upto fnReadIntegerSpec)

/-- 'laws.FnReadArrayBinary', WHERE WHAT IT READS IS OF BULK AT MOST 1048576: true; the input reads as it did. -/
def fnReadArrayBinaryUptoRow : OpenClaim := { program := "ytbdfpnhcincimaadoor", sum := "ae31d7be3d719e1d8930b95aedee0b7020ef48cb35225d5545ccc0b20c994c83", func := "given.example/pub-saddlebag/laws.FnReadArrayBinary", spec := "fnReadArrayBinary", recurses := true, named := ["encoding/binary.BigEndian", "io.EOF", "unicode/utf8.first", "unicode/utf8.acceptRanges"], loops := true, apart := false, laid := [("unicode/utf8.acceptRanges", laid_unicode_utf8_acceptRanges), ("io.EOF", laid_io_EOF), ("unicode/utf8.first", laid_unicode_utf8_first)], narrowed := true }
def FnReadArrayBinaryUptoSaid : Prop := fnReadArrayBinaryUptoRow.holds Tryd.pinned (OpenSpec.upto fnReadArrayBinarySpec)

end Rows
end Go.Proofs.YtbdfpnhcincimaaDoor
