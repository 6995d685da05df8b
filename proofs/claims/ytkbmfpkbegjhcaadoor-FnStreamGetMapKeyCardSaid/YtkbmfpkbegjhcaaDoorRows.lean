/-
  NARROWER THAN 'FOR EVERY INPUT', by the rows' own cells (each row's printed sentence says how): FnStreamGetTextBytes: ifaces, laid · FnPutTime: ifaces, laid · FnReplace: loops, ifaces, laid · FnStreamGetMapKey: ifaces, laid · FnStreamGetInt64: laid · FnStreamGetUint64: laid · FnStreamGetByte: laid · FnStreamPut: loops, ifaces, laid.
  DERIVED. THE GIVEN ROWS OF THIS SEAT. 8 by the template 'for every input the law returns true; each argument reads behind the call as it read before'; 0 by the template 'total and deterministic' (their statements: YtkbmfpkbegjhcaaDoorTotals.lean).
  GIVEN WITH THE SEED: the statements are not yours to turn. If you find one false, say at which input.
  Laid BY PROGRAM, IN A SANDBOX (cutbox-rows.mjs): the forced cells as the released guide's own fill.sh prints them over the translation aa9937e0dbb5549c… (all of the seat's roots in one cut). By AI agents, Wed Nov 11 2026. No macro, syntax, notation, axiom, sorry.
-/
import Derived.Test.YtkbmfpkbegjhcaaDoorChecked
import GoSem.Claim
import GoSem.ClaimJoined
import GoSem.ClaimMapViews
import Derived.JoinedTies
import Derived.KernelRfl
namespace Go.Proofs.YtkbmfpkbegjhcaaDoor
/- THE CELL 'sum', in the pinned program and in every row, IS THE sha256 OF THE DUMP (.gsa) THAT YtkbmfpkbegjhcaaDoorProg.lean LOADS. Nothing in Lean hashes anything: it is a label: what it is worth is what the hold of that sum in a sandbox is worth. -/
noncomputable def Tryd.pinned : Pinned := { name := "ytkbmfpkbegjhcaadoor", sum := "aa9937e0dbb5549c85f825641e72235091e9ac9ac80005b3148a235ae12b848b", checked := Tryd.checked }
namespace Rows
def none {H : Type} : Left H := { results := [], args := [] }

/- WHAT THE LISTED PACKAGE-LEVEL VARIABLES READ AS WHEN THE CALL BEGINS. Each datum BY PROGRAM (the guide's laid-datum.mjs) off the statement by which the dump's own 'gosem.cut.vars' lays the variable. In a bare row this is a premise. The card (YtkbmfpkbegjhcaaDoorCards.lean) ties it to the program's text. -/
def laid_io_EOF {H : Type} : DataW H := .iface "*errors.errorString" (.ptr (.agg [.lit (.string [69, 79, 70])]))
def laid_io_ErrUnexpectedEOF {H : Type} : DataW H := .iface "*errors.errorString" (.ptr (.agg [.lit (.string [117, 110, 101, 120, 112, 101, 99, 116, 101, 100, 32, 69, 79, 70])]))
def laid_given_example_pub_saddlebag_pub_msgp_msgp_ErrLimitExceeded {H : Type} : DataW H := .iface "given.example/pub-saddlebag/pub/msgp/msgp.errLimitExceeded" (.agg [])
def laid_given_example_pub_saddlebag_pub_msgp_msgp_ErrShortBytes {H : Type} : DataW H := .iface "given.example/pub-saddlebag/pub/msgp/msgp.errShort" (.agg [])
def laid_given_example_pub_saddlebag_pub_msgp_msgp_ErrRecursion {H : Type} : DataW H := .iface "given.example/pub-saddlebag/pub/msgp/msgp.errRecursion" (.agg [])
def laid_given_example_pub_saddlebag_pub_msgp_msgp_fatal {H : Type} : DataW H := .iface "given.example/pub-saddlebag/pub/msgp/msgp.errFatal" (.agg [.lit (.string [])])

/-- 'laws.FnStreamGetTextBytes': WHATEVER THE INPUT: true; the input reads as it did. -/
def fnStreamGetTextBytesSpec : ChangeSpec := { name := "fnStreamGetTextBytes", vars := ["given.example/pub-saddlebag/pub/msgp/msgp.ErrLimitExceeded"], fn := fun _ => fun
  | [d1, d2, d3, d4, g1] => { results := [.lit (.bool true)], args := [d1, d2, d3, d4], vars := [g1] }
  | _ => none }
def fnStreamGetTextBytesRow : OpenClaim := { program := "ytkbmfpkbegjhcaadoor", sum := "aa9937e0dbb5549c85f825641e72235091e9ac9ac80005b3148a235ae12b848b", func := "given.example/pub-saddlebag/laws.FnStreamGetTextBytes", spec := "fnStreamGetTextBytes", unfollowed := true, recurses := true, named := ["encoding/binary.BigEndian", "given.example/pub-saddlebag/pub/msgp/msgp.ErrLimitExceeded", "io.EOF", "io.ErrUnexpectedEOF"], ifaces := true, apart := false, laid := [("io.EOF", laid_io_EOF), ("io.ErrUnexpectedEOF", laid_io_ErrUnexpectedEOF), ("given.example/pub-saddlebag/pub/msgp/msgp.ErrLimitExceeded", laid_given_example_pub_saddlebag_pub_msgp_msgp_ErrLimitExceeded)] }
def FnStreamGetTextBytesSaid : Prop := fnStreamGetTextBytesRow.holds Tryd.pinned (OpenSpec.ofChange fnStreamGetTextBytesSpec)

/-- ITS FALSE NEIGHBOUR: 'it returns false'. Refute it at one input. -/
def fnStreamGetTextBytesWrong : ChangeSpec := { name := "fnStreamGetTextBytes", vars := ["given.example/pub-saddlebag/pub/msgp/msgp.ErrLimitExceeded"], fn := fun _ => fun
  | [d1, d2, d3, d4, g1] => { results := [.lit (.bool false)], args := [d1, d2, d3, d4], vars := [g1] }
  | _ => none }
def FnStreamGetTextBytesWrongFalsely : Prop := fnStreamGetTextBytesRow.holds Tryd.pinned (OpenSpec.ofChange fnStreamGetTextBytesWrong)

/-- 'laws.FnPutTime': WHATEVER THE INPUT: true; the input reads as it did. -/
def fnPutTimeSpec : ChangeSpec := { name := "fnPutTime", vars := ["given.example/pub-saddlebag/pub/msgp/msgp.ErrShortBytes"], fn := fun _ => fun
  | [d1, d2, d3, g1] => { results := [.lit (.bool true)], args := [d1, d2, d3], vars := [g1] }
  | _ => none }
def fnPutTimeRow : OpenClaim := { program := "ytkbmfpkbegjhcaadoor", sum := "aa9937e0dbb5549c85f825641e72235091e9ac9ac80005b3148a235ae12b848b", func := "given.example/pub-saddlebag/laws.FnPutTime", spec := "fnPutTime", recurses := true, named := ["encoding/binary.BigEndian", "given.example/pub-saddlebag/pub/msgp/msgp.ErrShortBytes"], ifaces := true, apart := false, laid := [("given.example/pub-saddlebag/pub/msgp/msgp.ErrShortBytes", laid_given_example_pub_saddlebag_pub_msgp_msgp_ErrShortBytes)] }
def FnPutTimeSaid : Prop := fnPutTimeRow.holds Tryd.pinned (OpenSpec.ofChange fnPutTimeSpec)

/-- ITS FALSE NEIGHBOUR: 'it returns false'. Refute it at one input. -/
def fnPutTimeWrong : ChangeSpec := { name := "fnPutTime", vars := ["given.example/pub-saddlebag/pub/msgp/msgp.ErrShortBytes"], fn := fun _ => fun
  | [d1, d2, d3, g1] => { results := [.lit (.bool false)], args := [d1, d2, d3], vars := [g1] }
  | _ => none }
def FnPutTimeWrongFalsely : Prop := fnPutTimeRow.holds Tryd.pinned (OpenSpec.ofChange fnPutTimeWrong)

/-- 'laws.FnReplace': WHATEVER THE INPUT: true; the input reads as it did. -/
def fnReplaceSpec : ChangeSpec := { name := "fnReplace", vars := ["given.example/pub-saddlebag/pub/msgp/msgp.ErrShortBytes", "given.example/pub-saddlebag/pub/msgp/msgp.ErrRecursion", "given.example/pub-saddlebag/pub/msgp/msgp.fatal"], fn := fun _ => fun
  | [d1, d2, d3, d4, g1, g2, g3] => { results := [.lit (.bool true)], args := [d1, d2, d3, d4], vars := [g1, g2, g3] }
  | _ => none }
def fnReplaceRow : OpenClaim := { program := "ytkbmfpkbegjhcaadoor", sum := "aa9937e0dbb5549c85f825641e72235091e9ac9ac80005b3148a235ae12b848b", func := "given.example/pub-saddlebag/laws.FnReplace", spec := "fnReplace", recurses := true, named := ["given.example/pub-saddlebag/pub/msgp/msgp.ErrShortBytes", "encoding/binary.BigEndian", "given.example/pub-saddlebag/pub/msgp/msgp.ErrRecursion", "given.example/pub-saddlebag/pub/msgp/msgp.fatal"], ifaces := true, loops := true, apart := false, laid := [("given.example/pub-saddlebag/pub/msgp/msgp.ErrShortBytes", laid_given_example_pub_saddlebag_pub_msgp_msgp_ErrShortBytes), ("given.example/pub-saddlebag/pub/msgp/msgp.ErrRecursion", laid_given_example_pub_saddlebag_pub_msgp_msgp_ErrRecursion), ("given.example/pub-saddlebag/pub/msgp/msgp.fatal", laid_given_example_pub_saddlebag_pub_msgp_msgp_fatal)] }
def FnReplaceSaid : Prop := fnReplaceRow.holds Tryd.pinned (OpenSpec.ofChange fnReplaceSpec)

/-- ITS FALSE NEIGHBOUR: 'it returns false'. Refute it at one input. -/
def fnReplaceWrong : ChangeSpec := { name := "fnReplace", vars := ["given.example/pub-saddlebag/pub/msgp/msgp.ErrShortBytes", "given.example/pub-saddlebag/pub/msgp/msgp.ErrRecursion", "given.example/pub-saddlebag/pub/msgp/msgp.fatal"], fn := fun _ => fun
  | [d1, d2, d3, d4, g1, g2, g3] => { results := [.lit (.bool false)], args := [d1, d2, d3, d4], vars := [g1, g2, g3] }
  | _ => none }
def FnReplaceWrongFalsely : Prop := fnReplaceRow.holds Tryd.pinned (OpenSpec.ofChange fnReplaceWrong)

/-- 'laws.FnStreamGetMapKey': WHATEVER THE INPUT: true; the input reads as it did. -/
def fnStreamGetMapKeySpec : ChangeSpec := { name := "fnStreamGetMapKey", vars := ["given.example/pub-saddlebag/pub/msgp/msgp.ErrLimitExceeded"], fn := fun _ => fun
  | [d1, d2, d3, d4, g1] => { results := [.lit (.bool true)], args := [d1, d2, d3, d4], vars := [g1] }
  | _ => none }
def fnStreamGetMapKeyRow : OpenClaim := { program := "ytkbmfpkbegjhcaadoor", sum := "aa9937e0dbb5549c85f825641e72235091e9ac9ac80005b3148a235ae12b848b", func := "given.example/pub-saddlebag/laws.FnStreamGetMapKey", spec := "fnStreamGetMapKey", unfollowed := true, recurses := true, named := ["given.example/pub-saddlebag/pub/msgp/msgp.ErrLimitExceeded", "encoding/binary.BigEndian", "io.EOF", "io.ErrUnexpectedEOF"], ifaces := true, apart := false, laid := [("io.EOF", laid_io_EOF), ("io.ErrUnexpectedEOF", laid_io_ErrUnexpectedEOF), ("given.example/pub-saddlebag/pub/msgp/msgp.ErrLimitExceeded", laid_given_example_pub_saddlebag_pub_msgp_msgp_ErrLimitExceeded)] }
def FnStreamGetMapKeySaid : Prop := fnStreamGetMapKeyRow.holds Tryd.pinned (OpenSpec.ofChange fnStreamGetMapKeySpec)

/-- ITS FALSE NEIGHBOUR: 'it returns false'. Refute it at one input. -/
def fnStreamGetMapKeyWrong : ChangeSpec := { name := "fnStreamGetMapKey", vars := ["given.example/pub-saddlebag/pub/msgp/msgp.ErrLimitExceeded"], fn := fun _ => fun
  | [d1, d2, d3, d4, g1] => { results := [.lit (.bool false)], args := [d1, d2, d3, d4], vars := [g1] }
  | _ => none }
def FnStreamGetMapKeyWrongFalsely : Prop := fnStreamGetMapKeyRow.holds Tryd.pinned (OpenSpec.ofChange fnStreamGetMapKeyWrong)

/-- 'laws.FnStreamGetInt64': WHATEVER THE INPUT: true; the input reads as it did. -/
def fnStreamGetInt64Spec : ChangeSpec := { name := "fnStreamGetInt64", fn := fun _ => fun
  | [d1, d2, d3, d4] => { results := [.lit (.bool true)], args := [d1, d2, d3, d4] }
  | _ => none }
def fnStreamGetInt64Row : OpenClaim := { program := "ytkbmfpkbegjhcaadoor", sum := "aa9937e0dbb5549c85f825641e72235091e9ac9ac80005b3148a235ae12b848b", func := "given.example/pub-saddlebag/laws.FnStreamGetInt64", spec := "fnStreamGetInt64", unfollowed := true, recurses := true, named := ["io.EOF", "io.ErrUnexpectedEOF"], apart := false, laid := [("io.EOF", laid_io_EOF), ("io.ErrUnexpectedEOF", laid_io_ErrUnexpectedEOF)] }
def FnStreamGetInt64Said : Prop := fnStreamGetInt64Row.holds Tryd.pinned (OpenSpec.ofChange fnStreamGetInt64Spec)

/-- ITS FALSE NEIGHBOUR: 'it returns false'. Refute it at one input. -/
def fnStreamGetInt64Wrong : ChangeSpec := { name := "fnStreamGetInt64", fn := fun _ => fun
  | [d1, d2, d3, d4] => { results := [.lit (.bool false)], args := [d1, d2, d3, d4] }
  | _ => none }
def FnStreamGetInt64WrongFalsely : Prop := fnStreamGetInt64Row.holds Tryd.pinned (OpenSpec.ofChange fnStreamGetInt64Wrong)

/-- 'laws.FnStreamGetUint64': WHATEVER THE INPUT: true; the input reads as it did. -/
def fnStreamGetUint64Spec : ChangeSpec := { name := "fnStreamGetUint64", fn := fun _ => fun
  | [d1, d2, d3, d4] => { results := [.lit (.bool true)], args := [d1, d2, d3, d4] }
  | _ => none }
def fnStreamGetUint64Row : OpenClaim := { program := "ytkbmfpkbegjhcaadoor", sum := "aa9937e0dbb5549c85f825641e72235091e9ac9ac80005b3148a235ae12b848b", func := "given.example/pub-saddlebag/laws.FnStreamGetUint64", spec := "fnStreamGetUint64", unfollowed := true, recurses := true, named := ["io.EOF", "io.ErrUnexpectedEOF"], apart := false, laid := [("io.EOF", laid_io_EOF), ("io.ErrUnexpectedEOF", laid_io_ErrUnexpectedEOF)] }
def FnStreamGetUint64Said : Prop := fnStreamGetUint64Row.holds Tryd.pinned (OpenSpec.ofChange fnStreamGetUint64Spec)

/-- ITS FALSE NEIGHBOUR: 'it returns false'. Refute it at one input. -/
def fnStreamGetUint64Wrong : ChangeSpec := { name := "fnStreamGetUint64", fn := fun _ => fun
  | [d1, d2, d3, d4] => { results := [.lit (.bool false)], args := [d1, d2, d3, d4] }
  | _ => none }
def FnStreamGetUint64WrongFalsely : Prop := fnStreamGetUint64Row.holds Tryd.pinned (OpenSpec.ofChange fnStreamGetUint64Wrong)

/-- 'laws.FnStreamGetByte': WHATEVER THE INPUT: true; the input reads as it did. -/
def fnStreamGetByteSpec : ChangeSpec := { name := "fnStreamGetByte", fn := fun _ => fun
  | [d1, d2, d3, d4] => { results := [.lit (.bool true)], args := [d1, d2, d3, d4] }
  | _ => none }
def fnStreamGetByteRow : OpenClaim := { program := "ytkbmfpkbegjhcaadoor", sum := "aa9937e0dbb5549c85f825641e72235091e9ac9ac80005b3148a235ae12b848b", func := "given.example/pub-saddlebag/laws.FnStreamGetByte", spec := "fnStreamGetByte", unfollowed := true, recurses := true, named := ["io.EOF", "io.ErrUnexpectedEOF"], apart := false, laid := [("io.EOF", laid_io_EOF), ("io.ErrUnexpectedEOF", laid_io_ErrUnexpectedEOF)] }
def FnStreamGetByteSaid : Prop := fnStreamGetByteRow.holds Tryd.pinned (OpenSpec.ofChange fnStreamGetByteSpec)

/-- ITS FALSE NEIGHBOUR: 'it returns false'. Refute it at one input. -/
def fnStreamGetByteWrong : ChangeSpec := { name := "fnStreamGetByte", fn := fun _ => fun
  | [d1, d2, d3, d4] => { results := [.lit (.bool false)], args := [d1, d2, d3, d4] }
  | _ => none }
def FnStreamGetByteWrongFalsely : Prop := fnStreamGetByteRow.holds Tryd.pinned (OpenSpec.ofChange fnStreamGetByteWrong)

/-- 'laws.FnStreamPut': WHATEVER THE INPUT: true; the input reads as it did. -/
def fnStreamPutSpec : ChangeSpec := { name := "fnStreamPut", vars := ["given.example/pub-saddlebag/pub/msgp/msgp.ErrLimitExceeded"], fn := fun _ => fun
  | [d1, d2, g1] => { results := [.lit (.bool true)], args := [d1, d2], vars := [g1] }
  | _ => none }
def fnStreamPutRow : OpenClaim := { program := "ytkbmfpkbegjhcaadoor", sum := "aa9937e0dbb5549c85f825641e72235091e9ac9ac80005b3148a235ae12b848b", func := "given.example/pub-saddlebag/laws.FnStreamPut", spec := "fnStreamPut", inPlace := ["math.Float32frombits", "math.Float32bits", "math.Float64frombits", "math.Float64bits"], unfollowed := true, recurses := true, named := ["given.example/pub-saddlebag/pub/msgp/msgp.ErrLimitExceeded", "encoding/binary.BigEndian"], ifaces := true, loops := true, apart := false, laid := [("given.example/pub-saddlebag/pub/msgp/msgp.ErrLimitExceeded", laid_given_example_pub_saddlebag_pub_msgp_msgp_ErrLimitExceeded)] }
def FnStreamPutSaid : Prop := fnStreamPutRow.holds Tryd.pinned (OpenSpec.ofChange fnStreamPutSpec)

/-- ITS FALSE NEIGHBOUR: 'it returns false'. Refute it at one input. -/
def fnStreamPutWrong : ChangeSpec := { name := "fnStreamPut", vars := ["given.example/pub-saddlebag/pub/msgp/msgp.ErrLimitExceeded"], fn := fun _ => fun
  | [d1, d2, g1] => { results := [.lit (.bool false)], args := [d1, d2], vars := [g1] }
  | _ => none }
def FnStreamPutWrongFalsely : Prop := fnStreamPutRow.holds Tryd.pinned (OpenSpec.ofChange fnStreamPutWrong)

/- THE SECOND FORM. 'bulk': how many values and letters a reading holds, each counted each time it is reached (what is shared counts as often as it is met; a slice's spare places count too). A statement '..UptoSaid' is the law's where the arguments, and the package variables that the reading takes, are together of bulk at most 1048576: NARROWER than '..Said'. Prove '..Said' where nothing that the law and all that it calls make is longer than what came in: it says more and counts as full. Else prove '..UptoSaid'. A law counts once. -/
mutual
def uptoBulk {H : Type} : DataW H → Nat
  | .lit (.string bytes) => bytes.length + 1
  | .lit _ => 1
  | .nil => 1
  | .ptr d => uptoBulk d + 1
  | .slice elems spare => uptoBulkAll elems + uptoBulkAll spare + 1
  | .agg parts => uptoBulkAll parts + 1
  | .iface _ d => uptoBulk d + 1
  | .map entries => uptoBulkEntries entries + 1
  | .held _ => 1
def uptoBulkAll {H : Type} : List (DataW H) → Nat
  | [] => 0
  | d :: r => uptoBulk d + uptoBulkAll r
def uptoBulkEntries {H : Type} : List (Lit × DataW H) → Nat
  | [] => 0
  | x :: r => uptoBulkEntry x + uptoBulkEntries r
def uptoBulkEntry {H : Type} : Lit × DataW H → Nat
  | (.string bytes, d) => bytes.length + uptoBulk d + 1
  | (_, d) => uptoBulk d + 1
 end
def uptoSmall : (H : Type) → List (DataW H) → Bool := fun _ ds => decide (uptoBulkAll ds ≤ 1048576)
def OpenSpec.upto (s : _root_.Go.ChangeSpec) : _root_.Go.OpenSpec := { _root_.Go.OpenSpec.ofChange s with cond := some uptoSmall }

/-- 'laws.FnStreamGetTextBytes', WHERE WHAT IT READS IS OF BULK AT MOST 1048576: true; the input reads as it did. -/
def fnStreamGetTextBytesUptoRow : OpenClaim := { program := "ytkbmfpkbegjhcaadoor", sum := "aa9937e0dbb5549c85f825641e72235091e9ac9ac80005b3148a235ae12b848b", func := "given.example/pub-saddlebag/laws.FnStreamGetTextBytes", spec := "fnStreamGetTextBytes", unfollowed := true, recurses := true, named := ["encoding/binary.BigEndian", "given.example/pub-saddlebag/pub/msgp/msgp.ErrLimitExceeded", "io.EOF", "io.ErrUnexpectedEOF"], ifaces := true, apart := false, laid := [("io.EOF", laid_io_EOF), ("io.ErrUnexpectedEOF", laid_io_ErrUnexpectedEOF), ("given.example/pub-saddlebag/pub/msgp/msgp.ErrLimitExceeded", laid_given_example_pub_saddlebag_pub_msgp_msgp_ErrLimitExceeded)], narrowed := true }
def FnStreamGetTextBytesUptoSaid : Prop := fnStreamGetTextBytesUptoRow.holds Tryd.pinned (OpenSpec.upto fnStreamGetTextBytesSpec)

/-- 'laws.FnPutTime', WHERE WHAT IT READS IS OF BULK AT MOST 1048576: true; the input reads as it did. -/
def fnPutTimeUptoRow : OpenClaim := { program := "ytkbmfpkbegjhcaadoor", sum := "aa9937e0dbb5549c85f825641e72235091e9ac9ac80005b3148a235ae12b848b", func := "given.example/pub-saddlebag/laws.FnPutTime", spec := "fnPutTime", recurses := true, named := ["encoding/binary.BigEndian", "given.example/pub-saddlebag/pub/msgp/msgp.ErrShortBytes"], ifaces := true, apart := false, laid := [("given.example/pub-saddlebag/pub/msgp/msgp.ErrShortBytes", laid_given_example_pub_saddlebag_pub_msgp_msgp_ErrShortBytes)], narrowed := true }
def FnPutTimeUptoSaid : Prop := fnPutTimeUptoRow.holds Tryd.pinned (OpenSpec.upto fnPutTimeSpec)

/-- 'laws.FnReplace', WHERE WHAT IT READS IS OF BULK AT MOST 1048576: true; the input reads as it did. -/
def fnReplaceUptoRow : OpenClaim := { program := "ytkbmfpkbegjhcaadoor", sum := "aa9937e0dbb5549c85f825641e72235091e9ac9ac80005b3148a235ae12b848b", func := "given.example/pub-saddlebag/laws.FnReplace", spec := "fnReplace", recurses := true, named := ["given.example/pub-saddlebag/pub/msgp/msgp.ErrShortBytes", "encoding/binary.BigEndian", "given.example/pub-saddlebag/pub/msgp/msgp.ErrRecursion", "given.example/pub-saddlebag/pub/msgp/msgp.fatal"], ifaces := true, loops := true, apart := false, laid := [("given.example/pub-saddlebag/pub/msgp/msgp.ErrShortBytes", laid_given_example_pub_saddlebag_pub_msgp_msgp_ErrShortBytes), ("given.example/pub-saddlebag/pub/msgp/msgp.ErrRecursion", laid_given_example_pub_saddlebag_pub_msgp_msgp_ErrRecursion), ("given.example/pub-saddlebag/pub/msgp/msgp.fatal", laid_given_example_pub_saddlebag_pub_msgp_msgp_fatal)], narrowed := true }
def FnReplaceUptoSaid : Prop := fnReplaceUptoRow.holds Tryd.pinned (OpenSpec.upto fnReplaceSpec)

/-- 'laws.FnStreamGetMapKey', WHERE WHAT IT READS IS OF BULK AT MOST 1048576: true; the input reads as it did. -/
def fnStreamGetMapKeyUptoRow : OpenClaim := { program := "ytkbmfpkbegjhcaadoor", sum := "aa9937e0dbb5549c85f825641e72235091e9ac9ac80005b3148a235ae12b848b", func := "given.example/pub-saddlebag/laws.FnStreamGetMapKey", spec := "fnStreamGetMapKey", unfollowed := true, recurses := true, named := ["given.example/pub-saddlebag/pub/msgp/msgp.ErrLimitExceeded", "encoding/binary.BigEndian", "io.EOF", "io.ErrUnexpectedEOF"], ifaces := true, apart := false, laid := [("io.EOF", laid_io_EOF), ("io.ErrUnexpectedEOF", laid_io_ErrUnexpectedEOF), ("given.example/pub-saddlebag/pub/msgp/msgp.ErrLimitExceeded", laid_given_example_pub_saddlebag_pub_msgp_msgp_ErrLimitExceeded)], narrowed := true }
def FnStreamGetMapKeyUptoSaid : Prop := fnStreamGetMapKeyUptoRow.holds Tryd.pinned (OpenSpec.upto fnStreamGetMapKeySpec)

/-- 'laws.FnStreamGetInt64', WHERE WHAT IT READS IS OF BULK AT MOST 1048576: true; the input reads as it did. -/
def fnStreamGetInt64UptoRow : OpenClaim := { program := "ytkbmfpkbegjhcaadoor", sum := "aa9937e0dbb5549c85f825641e72235091e9ac9ac80005b3148a235ae12b848b", func := "given.example/pub-saddlebag/laws.FnStreamGetInt64", spec := "fnStreamGetInt64", unfollowed := true, recurses := true, named := ["io.EOF", "io.ErrUnexpectedEOF"], apart := false, laid := [("io.EOF", laid_io_EOF), ("io.ErrUnexpectedEOF", laid_io_ErrUnexpectedEOF)], narrowed := true }
def FnStreamGetInt64UptoSaid : Prop := fnStreamGetInt64UptoRow.holds Tryd.pinned (OpenSpec.upto fnStreamGetInt64Spec)

/-- 'laws.FnStreamGetUint64', WHERE WHAT IT READS IS OF BULK AT MOST 1048576: true; the input reads as it did. -/
def fnStreamGetUint64UptoRow : OpenClaim := { program := "ytkbmfpkbegjhcaadoor", sum := "aa9937e0dbb5549c85f825641e72235091e9ac9ac80005b3148a235ae12b848b", func := "given.example/pub-saddlebag/laws.FnStreamGetUint64", spec := "fnStreamGetUint64", unfollowed := true, recurses := true, named := ["io.EOF", "io.ErrUnexpectedEOF"], apart := false, laid := [("io.EOF", laid_io_EOF), ("io.ErrUnexpectedEOF", laid_io_ErrUnexpectedEOF)], narrowed := true }
def FnStreamGetUint64UptoSaid : Prop := fnStreamGetUint64UptoRow.holds Tryd.pinned (OpenSpec.upto fnStreamGetUint64Spec)

/-- 'laws.FnStreamGetByte', WHERE WHAT IT READS IS OF BULK AT MOST 1048576: true; the input reads as it did. -/
def fnStreamGetByteUptoRow : OpenClaim := { program := "ytkbmfpkbegjhcaadoor", sum := "aa9937e0dbb5549c85f825641e72235091e9ac9ac80005b3148a235ae12b848b", func := "given.example/pub-saddlebag/laws.FnStreamGetByte", spec := "fnStreamGetByte", unfollowed := true, recurses := true, named := ["io.EOF", "io.ErrUnexpectedEOF"], apart := false, laid := [("io.EOF", laid_io_EOF), ("io.ErrUnexpectedEOF", laid_io_ErrUnexpectedEOF)], narrowed := true }
def FnStreamGetByteUptoSaid : Prop := fnStreamGetByteUptoRow.holds Tryd.pinned (OpenSpec.upto fnStreamGetByteSpec)

/-- 'laws.FnStreamPut', WHERE WHAT IT READS IS OF BULK AT MOST 1048576: true; the input reads as it did. -/
def fnStreamPutUptoRow : OpenClaim := { program := "ytkbmfpkbegjhcaadoor", sum := "aa9937e0dbb5549c85f825641e72235091e9ac9ac80005b3148a235ae12b848b", func := "given.example/pub-saddlebag/laws.FnStreamPut", spec := "fnStreamPut", inPlace := ["math.Float32frombits", "math.Float32bits", "math.Float64frombits", "math.Float64bits"], unfollowed := true, recurses := true, named := ["given.example/pub-saddlebag/pub/msgp/msgp.ErrLimitExceeded", "encoding/binary.BigEndian"], ifaces := true, loops := true, apart := false, laid := [("given.example/pub-saddlebag/pub/msgp/msgp.ErrLimitExceeded", laid_given_example_pub_saddlebag_pub_msgp_msgp_ErrLimitExceeded)], narrowed := true }
def FnStreamPutUptoSaid : Prop := fnStreamPutUptoRow.holds Tryd.pinned (OpenSpec.upto fnStreamPutSpec)

end Rows
end Go.Proofs.YtkbmfpkbegjhcaaDoor
