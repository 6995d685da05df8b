/-
  NARROWER THAN 'FOR EVERY INPUT', by the rows' own cells (each row's printed sentence says how): FnWriteInt: laid · FnWriteString: laid · FnWriteArrayFloat: laid · FnGetNil: loops, ifaces, laid.
  DERIVED. THE GIVEN ROWS OF THIS SEAT. 4 by the template 'for every input the law returns true; each argument reads behind the call as it read before'; 0 by the template 'total and deterministic' (their statements: YtmaofopbhlcgkaaDoorTotals.lean).
  GIVEN WITH THE SEED: the statements are not yours to turn. If you find one false, say at which input.
  Laid BY PROGRAM, IN A SANDBOX (cutbox-rows.mjs): the forced cells as the released guide's own fill.sh prints them over the translation d8046ccc2695c68a… (all of the seat's roots in one cut). By AI agents, Wed Nov 11 2026. No macro, syntax, notation, axiom, sorry.
-/
import Derived.Test.YtmaofopbhlcgkaaDoorChecked
import GoSem.PinnedTables
import GoSem.Claim
import GoSem.ClaimJoined
import GoSem.ClaimMapViews
import Derived.JoinedTies
import Derived.KernelRfl
namespace Go.Proofs.YtmaofopbhlcgkaaDoor
/- THE CELL 'sum', in the pinned program and in every row, IS THE sha256 OF THE DUMP (.gsa) THAT YtmaofopbhlcgkaaDoorProg.lean LOADS. Nothing in Lean hashes anything: it is a label: what it is worth is what the hold of that sum in a sandbox is worth. -/
noncomputable def Tryd.pinned : Pinned := { name := "ytmaofopbhlcgkaadoor", sum := "d8046ccc2695c68a8930c60ede00df2db6a2538e545836885654050531270c88", checked := Tryd.checked }
namespace Rows
def none {H : Type} : Left H := { results := [], args := [] }

/- WHAT THE LISTED PACKAGE-LEVEL VARIABLES READ AS WHEN THE CALL BEGINS. Each datum BY PROGRAM (the guide's laid-datum.mjs) off the statement by which the dump's own 'gosem.cut.vars' lays the variable. In a bare row this is a premise. The card (YtmaofopbhlcgkaaDoorCards.lean) ties it to the program's text. -/
def laid_unicode_utf8_acceptRanges {H : Type} : DataW H := .agg [.agg [.lit (.int .u8 128), .lit (.int .u8 191)], .agg [.lit (.int .u8 160), .lit (.int .u8 191)], .agg [.lit (.int .u8 128), .lit (.int .u8 159)], .agg [.lit (.int .u8 144), .lit (.int .u8 191)], .agg [.lit (.int .u8 128), .lit (.int .u8 143)], .agg [.lit (.int .u8 0), .lit (.int .u8 0)], .agg [.lit (.int .u8 0), .lit (.int .u8 0)], .agg [.lit (.int .u8 0), .lit (.int .u8 0)], .agg [.lit (.int .u8 0), .lit (.int .u8 0)], .agg [.lit (.int .u8 0), .lit (.int .u8 0)], .agg [.lit (.int .u8 0), .lit (.int .u8 0)], .agg [.lit (.int .u8 0), .lit (.int .u8 0)], .agg [.lit (.int .u8 0), .lit (.int .u8 0)], .agg [.lit (.int .u8 0), .lit (.int .u8 0)], .agg [.lit (.int .u8 0), .lit (.int .u8 0)], .agg [.lit (.int .u8 0), .lit (.int .u8 0)]]
/-- One of Go's own tables, pinned by name: the form's constant. -/
def laid_unicode_utf8_first : DataW Unit := Go.Pinned.utf8First
def laid_given_example_pub_saddlebag_pub_msgp_msgp_ErrShortBytes {H : Type} : DataW H := .iface "given.example/pub-saddlebag/pub/msgp/msgp.errShort" (.agg [])

/-- 'laws.FnWriteInt': WHATEVER THE INPUT: true; the input reads as it did. -/
def fnWriteIntSpec : ChangeSpec := { name := "fnWriteInt", fn := fun _ => fun
  | [d] => { results := [.lit (.bool true)], args := [d] }
  | _ => none }
def fnWriteIntRow : OpenClaim := { program := "ytmaofopbhlcgkaadoor", sum := "d8046ccc2695c68a8930c60ede00df2db6a2538e545836885654050531270c88", func := "given.example/pub-saddlebag/laws.FnWriteInt", spec := "fnWriteInt", recurses := true, named := ["unicode/utf8.first", "unicode/utf8.acceptRanges"], apart := false, laid := [("unicode/utf8.acceptRanges", laid_unicode_utf8_acceptRanges), ("unicode/utf8.first", laid_unicode_utf8_first)] }
def FnWriteIntSaid : Prop := fnWriteIntRow.holds Tryd.pinned (OpenSpec.ofChange fnWriteIntSpec)

/-- ITS FALSE NEIGHBOUR: 'it returns false'. Refute it at one input. -/
def fnWriteIntWrong : ChangeSpec := { name := "fnWriteInt", fn := fun _ => fun
  | [d] => { results := [.lit (.bool false)], args := [d] }
  | _ => none }
def FnWriteIntWrongFalsely : Prop := fnWriteIntRow.holds Tryd.pinned (OpenSpec.ofChange fnWriteIntWrong)

/-- 'laws.FnWriteString': WHATEVER THE INPUT: true; the input reads as it did. -/
def fnWriteStringSpec : ChangeSpec := { name := "fnWriteString", fn := fun _ => fun
  | [d] => { results := [.lit (.bool true)], args := [d] }
  | _ => none }
def fnWriteStringRow : OpenClaim := { program := "ytmaofopbhlcgkaadoor", sum := "d8046ccc2695c68a8930c60ede00df2db6a2538e545836885654050531270c88", func := "given.example/pub-saddlebag/laws.FnWriteString", spec := "fnWriteString", recurses := true, named := ["unicode/utf8.first", "unicode/utf8.acceptRanges"], apart := false, laid := [("unicode/utf8.acceptRanges", laid_unicode_utf8_acceptRanges), ("unicode/utf8.first", laid_unicode_utf8_first)] }
def FnWriteStringSaid : Prop := fnWriteStringRow.holds Tryd.pinned (OpenSpec.ofChange fnWriteStringSpec)

/-- ITS FALSE NEIGHBOUR: 'it returns false'. Refute it at one input. -/
def fnWriteStringWrong : ChangeSpec := { name := "fnWriteString", fn := fun _ => fun
  | [d] => { results := [.lit (.bool false)], args := [d] }
  | _ => none }
def FnWriteStringWrongFalsely : Prop := fnWriteStringRow.holds Tryd.pinned (OpenSpec.ofChange fnWriteStringWrong)

/-- 'laws.FnWriteArrayFloat': WHATEVER THE INPUT: true; the input reads as it did. -/
def fnWriteArrayFloatSpec : ChangeSpec := { name := "fnWriteArrayFloat", fn := fun _ => fun
  | [d] => { results := [.lit (.bool true)], args := [d] }
  | _ => none }
def fnWriteArrayFloatRow : OpenClaim := { program := "ytmaofopbhlcgkaadoor", sum := "d8046ccc2695c68a8930c60ede00df2db6a2538e545836885654050531270c88", func := "given.example/pub-saddlebag/laws.FnWriteArrayFloat", spec := "fnWriteArrayFloat", inPlace := ["math.Float32frombits", "math.Float32bits"], recurses := true, named := ["unicode/utf8.first", "unicode/utf8.acceptRanges"], apart := false, laid := [("unicode/utf8.acceptRanges", laid_unicode_utf8_acceptRanges), ("unicode/utf8.first", laid_unicode_utf8_first)] }
def FnWriteArrayFloatSaid : Prop := fnWriteArrayFloatRow.holds Tryd.pinned (OpenSpec.ofChange fnWriteArrayFloatSpec)

/-- ITS FALSE NEIGHBOUR: 'it returns false'. Refute it at one input. -/
def fnWriteArrayFloatWrong : ChangeSpec := { name := "fnWriteArrayFloat", fn := fun _ => fun
  | [d] => { results := [.lit (.bool false)], args := [d] }
  | _ => none }
def FnWriteArrayFloatWrongFalsely : Prop := fnWriteArrayFloatRow.holds Tryd.pinned (OpenSpec.ofChange fnWriteArrayFloatWrong)

/-- 'laws.FnGetNil': WHATEVER THE INPUT: true; the input reads as it did. -/
def fnGetNilSpec : ChangeSpec := { name := "fnGetNil", vars := ["given.example/pub-saddlebag/pub/msgp/msgp.ErrShortBytes"], fn := fun _ => fun
  | [d, g1] => { results := [.lit (.bool true)], args := [d], vars := [g1] }
  | _ => none }
def fnGetNilRow : OpenClaim := { program := "ytmaofopbhlcgkaadoor", sum := "d8046ccc2695c68a8930c60ede00df2db6a2538e545836885654050531270c88", func := "given.example/pub-saddlebag/laws.FnGetNil", spec := "fnGetNil", recurses := true, named := ["given.example/pub-saddlebag/pub/msgp/msgp.ErrShortBytes"], ifaces := true, loops := true, apart := false, laid := [("given.example/pub-saddlebag/pub/msgp/msgp.ErrShortBytes", laid_given_example_pub_saddlebag_pub_msgp_msgp_ErrShortBytes)] }
def FnGetNilSaid : Prop := fnGetNilRow.holds Tryd.pinned (OpenSpec.ofChange fnGetNilSpec)

/-- ITS FALSE NEIGHBOUR: 'it returns false'. Refute it at one input. -/
def fnGetNilWrong : ChangeSpec := { name := "fnGetNil", vars := ["given.example/pub-saddlebag/pub/msgp/msgp.ErrShortBytes"], fn := fun _ => fun
  | [d, g1] => { results := [.lit (.bool false)], args := [d], vars := [g1] }
  | _ => none }
def FnGetNilWrongFalsely : Prop := fnGetNilRow.holds Tryd.pinned (OpenSpec.ofChange fnGetNilWrong)

/- THE SECOND FORM. 'bulk': how many values and letters a reading holds, each counted each time it is reached (what is shared counts as often as it is met; a slice's spare places count too). A statement '..UptoSaid' is the law's where the arguments, and the package variables that the reading takes, are together of bulk at most 1048576: NARROWER than '..Said'. Prove '..Said' where nothing that the law and all that it calls make is longer than what came in: it says more and counts as full. Else prove '..UptoSaid'. A law counts once. -/
mutual
def uptoBulk {H : Type} : DataW H → Nat
  | .lit (.string bytes) => bytes.length + 1
  | .lit _ => 1
  | .nil => 1
  | .ptr d => uptoBulk d + 1
  | .slice elems spare => uptoBulkAll elems + uptoBulkAll spare + 1
  | .agg parts => uptoBulkAll parts + 1
  | .iface _ d => uptoBulk d + 1
  | .map entries => uptoBulkEntries entries + 1
  | .held _ => 1
def uptoBulkAll {H : Type} : List (DataW H) → Nat
  | [] => 0
  | d :: r => uptoBulk d + uptoBulkAll r
def uptoBulkEntries {H : Type} : List (Lit × DataW H) → Nat
  | [] => 0
  | x :: r => uptoBulkEntry x + uptoBulkEntries r
def uptoBulkEntry {H : Type} : Lit × DataW H → Nat
  | (.string bytes, d) => bytes.length + uptoBulk d + 1
  | (_, d) => uptoBulk d + 1
 end
def uptoSmall : (H : Type) → List (DataW H) → Bool := fun _ ds => decide (uptoBulkAll ds ≤ 1048576)
def OpenSpec.upto (s : _root_.Go.ChangeSpec) : _root_.Go.OpenSpec := { _root_.Go.OpenSpec.ofChange s with cond := some uptoSmall }

/-- 'laws.FnWriteInt', WHERE WHAT IT READS IS OF BULK AT MOST 1048576: true; the input reads as it did. -/
def fnWriteIntUptoRow : OpenClaim := { program := "ytmaofopbhlcgkaadoor", sum := "d8046ccc2695c68a8930c60ede00df2db6a2538e545836885654050531270c88", func := "given.example/pub-saddlebag/laws.FnWriteInt", spec := "fnWriteInt", recurses := true, named := ["unicode/utf8.first", "unicode/utf8.acceptRanges"], apart := false, laid := [("unicode/utf8.acceptRanges", laid_unicode_utf8_acceptRanges), ("unicode/utf8.first", laid_unicode_utf8_first)], narrowed := true }
def FnWriteIntUptoSaid : Prop := fnWriteIntUptoRow.holds Tryd.pinned (OpenSpec.upto fnWriteIntSpec)

/-- 'laws.FnWriteString', WHERE WHAT IT READS IS OF BULK AT MOST 1048576: true; the input reads as it did. -/
def fnWriteStringUptoRow : OpenClaim := { program := "ytmaofopbhlcgkaadoor", sum := "d8046ccc2695c68a8930c60ede00df2db6a2538e545836885654050531270c88", func := "given.example/pub-saddlebag/laws.FnWriteString", spec := "fnWriteString", recurses := true, named := ["unicode/utf8.first", "unicode/utf8.acceptRanges"], apart := false, laid := [("unicode/utf8.acceptRanges", laid_unicode_utf8_acceptRanges), ("unicode/utf8.first", laid_unicode_utf8_first)], narrowed := true }
def FnWriteStringUptoSaid : Prop := fnWriteStringUptoRow.holds Tryd.pinned (OpenSpec.upto fnWriteStringSpec)

/-- 'laws.FnWriteArrayFloat', WHERE WHAT IT READS IS OF BULK AT MOST 1048576: true; the input reads as it did. -/
def fnWriteArrayFloatUptoRow : OpenClaim := { program := "ytmaofopbhlcgkaadoor", sum := "d8046ccc2695c68a8930c60ede00df2db6a2538e545836885654050531270c88", func := "given.example/pub-saddlebag/laws.FnWriteArrayFloat", spec := "fnWriteArrayFloat", inPlace := ["math.Float32frombits", "math.Float32bits"], recurses := true, named := ["unicode/utf8.first", "unicode/utf8.acceptRanges"], apart := false, laid := [("unicode/utf8.acceptRanges", laid_unicode_utf8_acceptRanges), ("unicode/utf8.first", laid_unicode_utf8_first)], narrowed := true }
def FnWriteArrayFloatUptoSaid : Prop := fnWriteArrayFloatUptoRow.holds Tryd.pinned (OpenSpec.upto fnWriteArrayFloatSpec)

/-- 'laws.FnGetNil', WHERE WHAT IT READS IS OF BULK AT MOST 1048576: true; the input reads as it did. -/
def fnGetNilUptoRow : OpenClaim := { program := "ytmaofopbhlcgkaadoor", sum := "d8046ccc2695c68a8930c60ede00df2db6a2538e545836885654050531270c88", func := "given.example/pub-saddlebag/laws.FnGetNil", spec := "fnGetNil", recurses := true, named := ["given.example/pub-saddlebag/pub/msgp/msgp.ErrShortBytes"], ifaces := true, loops := true, apart := false, laid := [("given.example/pub-saddlebag/pub/msgp/msgp.ErrShortBytes", laid_given_example_pub_saddlebag_pub_msgp_msgp_ErrShortBytes)], narrowed := true }
def FnGetNilUptoSaid : Prop := fnGetNilUptoRow.holds Tryd.pinned (OpenSpec.upto fnGetNilSpec)

end Rows
end Go.Proofs.YtmaofopbhlcgkaaDoor
