/-
  NARROWER THAN 'FOR EVERY INPUT', by the rows' own cells (each row's printed sentence says how): FnGetNil: loops, ifaces, laid · FnGetText: loops, ifaces, laid · FnSkip: loops, ifaces, laid · FnGetInt8: loops, ifaces, laid · FnGetMapKey: loops, ifaces, laid · FnGetUint8: loops, ifaces, laid.
  DERIVED. THE GIVEN ROWS OF THIS SEAT. 6 by the template 'for every input the law returns true; each argument reads behind the call as it read before'; 0 by the template 'total and deterministic' (their statements: YtdfefemnlimeeaaDoorTotals.lean).
  GIVEN WITH THE SEED: the statements are not yours to turn. If you find one false, say at which input.
  Laid BY PROGRAM, IN A SANDBOX (cutbox-rows.mjs): the forced cells as the released guide's own fill.sh prints them over the translation e05335fc6d4c191e… (all of the seat's roots in one cut). By AI agents, Wed Nov 11 2026. No macro, syntax, notation, axiom, sorry.
-/
import Derived.Test.YtdfefemnlimeeaaDoorChecked
import GoSem.Claim
import GoSem.ClaimJoined
import GoSem.ClaimMapViews
import Derived.JoinedTies
import Derived.KernelRfl
namespace Go.Proofs.YtdfefemnlimeeaaDoor
/- THE CELL 'sum', in the pinned program and in every row, IS THE sha256 OF THE DUMP (.gsa) THAT YtdfefemnlimeeaaDoorProg.lean LOADS. Nothing in Lean hashes anything: it is a label: what it is worth is what the hold of that sum in a sandbox is worth. -/
noncomputable def Tryd.pinned : Pinned := { name := "ytdfefemnlimeeaadoor", sum := "e05335fc6d4c191e11e8a339cfb517225ad1ef155cace88a0b2713dbcded2c74", checked := Tryd.checked }
namespace Rows
def none {H : Type} : Left H := { results := [], args := [] }

/- WHAT THE LISTED PACKAGE-LEVEL VARIABLES READ AS WHEN THE CALL BEGINS. Each datum BY PROGRAM (the guide's laid-datum.mjs) off the statement by which the dump's own 'gosem.cut.vars' lays the variable. In a bare row this is a premise. The card (YtdfefemnlimeeaaDoorCards.lean) ties it to the program's text. -/
def laid_given_example_pub_saddlebag_pub_msgp_msgp_ErrShortBytes {H : Type} : DataW H := .iface "given.example/pub-saddlebag/pub/msgp/msgp.errShort" (.agg [])
def laid_given_example_pub_saddlebag_pub_msgp_msgp_ErrRecursion {H : Type} : DataW H := .iface "given.example/pub-saddlebag/pub/msgp/msgp.errRecursion" (.agg [])
def laid_given_example_pub_saddlebag_pub_msgp_msgp_fatal {H : Type} : DataW H := .iface "given.example/pub-saddlebag/pub/msgp/msgp.errFatal" (.agg [.lit (.string [])])

/-- 'laws.FnGetNil': WHATEVER THE INPUT: true; the input reads as it did. -/
def fnGetNilSpec : ChangeSpec := { name := "fnGetNil", vars := ["given.example/pub-saddlebag/pub/msgp/msgp.ErrShortBytes"], fn := fun _ => fun
  | [d, g1] => { results := [.lit (.bool true)], args := [d], vars := [g1] }
  | _ => none }
def fnGetNilRow : OpenClaim := { program := "ytdfefemnlimeeaadoor", sum := "e05335fc6d4c191e11e8a339cfb517225ad1ef155cace88a0b2713dbcded2c74", func := "given.example/pub-saddlebag/laws.FnGetNil", spec := "fnGetNil", recurses := true, named := ["given.example/pub-saddlebag/pub/msgp/msgp.ErrShortBytes"], ifaces := true, loops := true, apart := false, laid := [("given.example/pub-saddlebag/pub/msgp/msgp.ErrShortBytes", laid_given_example_pub_saddlebag_pub_msgp_msgp_ErrShortBytes)] }
def FnGetNilSaid : Prop := fnGetNilRow.holds Tryd.pinned (OpenSpec.ofChange fnGetNilSpec)

/-- ITS FALSE NEIGHBOUR: 'it returns false'. Refute it at one input. -/
def fnGetNilWrong : ChangeSpec := { name := "fnGetNil", vars := ["given.example/pub-saddlebag/pub/msgp/msgp.ErrShortBytes"], fn := fun _ => fun
  | [d, g1] => { results := [.lit (.bool false)], args := [d], vars := [g1] }
  | _ => none }
def FnGetNilWrongFalsely : Prop := fnGetNilRow.holds Tryd.pinned (OpenSpec.ofChange fnGetNilWrong)

/-- 'laws.FnGetText': WHATEVER THE INPUT: true; the input reads as it did. -/
def fnGetTextSpec : ChangeSpec := { name := "fnGetText", vars := ["given.example/pub-saddlebag/pub/msgp/msgp.ErrShortBytes"], fn := fun _ => fun
  | [d, g1] => { results := [.lit (.bool true)], args := [d], vars := [g1] }
  | _ => none }
def fnGetTextRow : OpenClaim := { program := "ytdfefemnlimeeaadoor", sum := "e05335fc6d4c191e11e8a339cfb517225ad1ef155cace88a0b2713dbcded2c74", func := "given.example/pub-saddlebag/laws.FnGetText", spec := "fnGetText", recurses := true, named := ["given.example/pub-saddlebag/pub/msgp/msgp.ErrShortBytes", "encoding/binary.BigEndian"], ifaces := true, loops := true, apart := false, laid := [("given.example/pub-saddlebag/pub/msgp/msgp.ErrShortBytes", laid_given_example_pub_saddlebag_pub_msgp_msgp_ErrShortBytes)] }
def FnGetTextSaid : Prop := fnGetTextRow.holds Tryd.pinned (OpenSpec.ofChange fnGetTextSpec)

/-- ITS FALSE NEIGHBOUR: 'it returns false'. Refute it at one input. -/
def fnGetTextWrong : ChangeSpec := { name := "fnGetText", vars := ["given.example/pub-saddlebag/pub/msgp/msgp.ErrShortBytes"], fn := fun _ => fun
  | [d, g1] => { results := [.lit (.bool false)], args := [d], vars := [g1] }
  | _ => none }
def FnGetTextWrongFalsely : Prop := fnGetTextRow.holds Tryd.pinned (OpenSpec.ofChange fnGetTextWrong)

/-- 'laws.FnSkip': WHATEVER THE INPUT: true; the input reads as it did. -/
def fnSkipSpec : ChangeSpec := { name := "fnSkip", vars := ["given.example/pub-saddlebag/pub/msgp/msgp.ErrRecursion", "given.example/pub-saddlebag/pub/msgp/msgp.ErrShortBytes", "given.example/pub-saddlebag/pub/msgp/msgp.fatal"], fn := fun _ => fun
  | [d, g1, g2, g3] => { results := [.lit (.bool true)], args := [d], vars := [g1, g2, g3] }
  | _ => none }
def fnSkipRow : OpenClaim := { program := "ytdfefemnlimeeaadoor", sum := "e05335fc6d4c191e11e8a339cfb517225ad1ef155cace88a0b2713dbcded2c74", func := "given.example/pub-saddlebag/laws.FnSkip", spec := "fnSkip", recurses := true, named := ["given.example/pub-saddlebag/pub/msgp/msgp.ErrRecursion", "given.example/pub-saddlebag/pub/msgp/msgp.ErrShortBytes", "encoding/binary.BigEndian", "given.example/pub-saddlebag/pub/msgp/msgp.fatal"], ifaces := true, loops := true, apart := false, laid := [("given.example/pub-saddlebag/pub/msgp/msgp.ErrShortBytes", laid_given_example_pub_saddlebag_pub_msgp_msgp_ErrShortBytes), ("given.example/pub-saddlebag/pub/msgp/msgp.ErrRecursion", laid_given_example_pub_saddlebag_pub_msgp_msgp_ErrRecursion), ("given.example/pub-saddlebag/pub/msgp/msgp.fatal", laid_given_example_pub_saddlebag_pub_msgp_msgp_fatal)] }
def FnSkipSaid : Prop := fnSkipRow.holds Tryd.pinned (OpenSpec.ofChange fnSkipSpec)

/-- ITS FALSE NEIGHBOUR: 'it returns false'. Refute it at one input. -/
def fnSkipWrong : ChangeSpec := { name := "fnSkip", vars := ["given.example/pub-saddlebag/pub/msgp/msgp.ErrRecursion", "given.example/pub-saddlebag/pub/msgp/msgp.ErrShortBytes", "given.example/pub-saddlebag/pub/msgp/msgp.fatal"], fn := fun _ => fun
  | [d, g1, g2, g3] => { results := [.lit (.bool false)], args := [d], vars := [g1, g2, g3] }
  | _ => none }
def FnSkipWrongFalsely : Prop := fnSkipRow.holds Tryd.pinned (OpenSpec.ofChange fnSkipWrong)

/-- 'laws.FnGetInt8': WHATEVER THE INPUT: true; the input reads as it did. -/
def fnGetInt8Spec : ChangeSpec := { name := "fnGetInt8", vars := ["given.example/pub-saddlebag/pub/msgp/msgp.ErrShortBytes"], fn := fun _ => fun
  | [d, g1] => { results := [.lit (.bool true)], args := [d], vars := [g1] }
  | _ => none }
def fnGetInt8Row : OpenClaim := { program := "ytdfefemnlimeeaadoor", sum := "e05335fc6d4c191e11e8a339cfb517225ad1ef155cace88a0b2713dbcded2c74", func := "given.example/pub-saddlebag/laws.FnGetInt8", spec := "fnGetInt8", recurses := true, named := ["given.example/pub-saddlebag/pub/msgp/msgp.ErrShortBytes", "encoding/binary.BigEndian"], ifaces := true, loops := true, apart := false, laid := [("given.example/pub-saddlebag/pub/msgp/msgp.ErrShortBytes", laid_given_example_pub_saddlebag_pub_msgp_msgp_ErrShortBytes)] }
def FnGetInt8Said : Prop := fnGetInt8Row.holds Tryd.pinned (OpenSpec.ofChange fnGetInt8Spec)

/-- ITS FALSE NEIGHBOUR: 'it returns false'. Refute it at one input. -/
def fnGetInt8Wrong : ChangeSpec := { name := "fnGetInt8", vars := ["given.example/pub-saddlebag/pub/msgp/msgp.ErrShortBytes"], fn := fun _ => fun
  | [d, g1] => { results := [.lit (.bool false)], args := [d], vars := [g1] }
  | _ => none }
def FnGetInt8WrongFalsely : Prop := fnGetInt8Row.holds Tryd.pinned (OpenSpec.ofChange fnGetInt8Wrong)

/-- 'laws.FnGetMapKey': WHATEVER THE INPUT: true; the input reads as it did. -/
def fnGetMapKeySpec : ChangeSpec := { name := "fnGetMapKey", vars := ["given.example/pub-saddlebag/pub/msgp/msgp.ErrShortBytes"], fn := fun _ => fun
  | [d, g1] => { results := [.lit (.bool true)], args := [d], vars := [g1] }
  | _ => none }
def fnGetMapKeyRow : OpenClaim := { program := "ytdfefemnlimeeaadoor", sum := "e05335fc6d4c191e11e8a339cfb517225ad1ef155cace88a0b2713dbcded2c74", func := "given.example/pub-saddlebag/laws.FnGetMapKey", spec := "fnGetMapKey", recurses := true, named := ["given.example/pub-saddlebag/pub/msgp/msgp.ErrShortBytes", "encoding/binary.BigEndian"], ifaces := true, loops := true, apart := false, laid := [("given.example/pub-saddlebag/pub/msgp/msgp.ErrShortBytes", laid_given_example_pub_saddlebag_pub_msgp_msgp_ErrShortBytes)] }
def FnGetMapKeySaid : Prop := fnGetMapKeyRow.holds Tryd.pinned (OpenSpec.ofChange fnGetMapKeySpec)

/-- ITS FALSE NEIGHBOUR: 'it returns false'. Refute it at one input. -/
def fnGetMapKeyWrong : ChangeSpec := { name := "fnGetMapKey", vars := ["given.example/pub-saddlebag/pub/msgp/msgp.ErrShortBytes"], fn := fun _ => fun
  | [d, g1] => { results := [.lit (.bool false)], args := [d], vars := [g1] }
  | _ => none }
def FnGetMapKeyWrongFalsely : Prop := fnGetMapKeyRow.holds Tryd.pinned (OpenSpec.ofChange fnGetMapKeyWrong)

/-- 'laws.FnGetUint8': WHATEVER THE INPUT: true; the input reads as it did. -/
def fnGetUint8Spec : ChangeSpec := { name := "fnGetUint8", vars := ["given.example/pub-saddlebag/pub/msgp/msgp.ErrShortBytes"], fn := fun _ => fun
  | [d, g1] => { results := [.lit (.bool true)], args := [d], vars := [g1] }
  | _ => none }
def fnGetUint8Row : OpenClaim := { program := "ytdfefemnlimeeaadoor", sum := "e05335fc6d4c191e11e8a339cfb517225ad1ef155cace88a0b2713dbcded2c74", func := "given.example/pub-saddlebag/laws.FnGetUint8", spec := "fnGetUint8", recurses := true, named := ["given.example/pub-saddlebag/pub/msgp/msgp.ErrShortBytes", "encoding/binary.BigEndian"], ifaces := true, loops := true, apart := false, laid := [("given.example/pub-saddlebag/pub/msgp/msgp.ErrShortBytes", laid_given_example_pub_saddlebag_pub_msgp_msgp_ErrShortBytes)] }
def FnGetUint8Said : Prop := fnGetUint8Row.holds Tryd.pinned (OpenSpec.ofChange fnGetUint8Spec)

/-- ITS FALSE NEIGHBOUR: 'it returns false'. Refute it at one input. -/
def fnGetUint8Wrong : ChangeSpec := { name := "fnGetUint8", vars := ["given.example/pub-saddlebag/pub/msgp/msgp.ErrShortBytes"], fn := fun _ => fun
  | [d, g1] => { results := [.lit (.bool false)], args := [d], vars := [g1] }
  | _ => none }
def FnGetUint8WrongFalsely : Prop := fnGetUint8Row.holds Tryd.pinned (OpenSpec.ofChange fnGetUint8Wrong)

/- THE SECOND FORM. 'bulk': how many values and letters a reading holds, each counted each time it is reached (what is shared counts as often as it is met; a slice's spare places count too). A statement '..UptoSaid' is the law's where the arguments, and the package variables that the reading takes, are together of bulk at most 1048576: NARROWER than '..Said'. Prove '..Said' where nothing that the law and all that it calls make is longer than what came in: it says more and counts as full. Else prove '..UptoSaid'. A law counts once. -/
mutual
def uptoBulk {H : Type} : DataW H → Nat
  | .lit (.string bytes) => bytes.length + 1
  | .lit _ => 1
  | .nil => 1
  | .ptr d => uptoBulk d + 1
  | .slice elems spare => uptoBulkAll elems + uptoBulkAll spare + 1
  | .agg parts => uptoBulkAll parts + 1
  | .iface _ d => uptoBulk d + 1
  | .map entries => uptoBulkEntries entries + 1
  | .held _ => 1
def uptoBulkAll {H : Type} : List (DataW H) → Nat
  | [] => 0
  | d :: r => uptoBulk d + uptoBulkAll r
def uptoBulkEntries {H : Type} : List (Lit × DataW H) → Nat
  | [] => 0
  | x :: r => uptoBulkEntry x + uptoBulkEntries r
def uptoBulkEntry {H : Type} : Lit × DataW H → Nat
  | (.string bytes, d) => bytes.length + uptoBulk d + 1
  | (_, d) => uptoBulk d + 1
 end
def uptoSmall : (H : Type) → List (DataW H) → Bool := fun _ ds => decide (uptoBulkAll ds ≤ 1048576)
def OpenSpec.upto (s : _root_.Go.ChangeSpec) : _root_.Go.OpenSpec := { _root_.Go.OpenSpec.ofChange s with cond := some uptoSmall }

/-- 'laws.FnGetNil', WHERE WHAT IT READS IS OF BULK AT MOST 1048576: true; the input reads as it did. -/
def fnGetNilUptoRow : OpenClaim := { program := "ytdfefemnlimeeaadoor", sum := "e05335fc6d4c191e11e8a339cfb517225ad1ef155cace88a0b2713dbcded2c74", func := "given.example/pub-saddlebag/laws.FnGetNil", spec := "fnGetNil", recurses := true, named := ["given.example/pub-saddlebag/pub/msgp/msgp.ErrShortBytes"], ifaces := true, loops := true, apart := false, laid := [("given.example/pub-saddlebag/pub/msgp/msgp.ErrShortBytes", laid_given_example_pub_saddlebag_pub_msgp_msgp_ErrShortBytes)], narrowed := true }
def FnGetNilUptoSaid : Prop := fnGetNilUptoRow.holds Tryd.pinned (OpenSpec.upto fnGetNilSpec)

/-- 'laws.FnGetText', WHERE WHAT IT READS IS OF BULK AT MOST 1048576: true; the input reads as it did. -/
def fnGetTextUptoRow : OpenClaim := { program := "ytdfefemnlimeeaadoor", sum := "e05335fc6d4c191e11e8a339cfb517225ad1ef155cace88a0b2713dbcded2c74", func := "given.example/pub-saddlebag/laws.FnGetText", spec := "fnGetText", recurses := true, named := ["given.example/pub-saddlebag/pub/msgp/msgp.ErrShortBytes", "encoding/binary.BigEndian"], ifaces := true, loops := true, apart := false, laid := [("given.example/pub-saddlebag/pub/msgp/msgp.ErrShortBytes", laid_given_example_pub_saddlebag_pub_msgp_msgp_ErrShortBytes)], narrowed := true }
def FnGetTextUptoSaid : Prop := fnGetTextUptoRow.holds Tryd.pinned (OpenSpec.upto fnGetTextSpec)

/-- 'laws.FnSkip', WHERE WHAT IT READS IS OF BULK AT MOST 1048576: true; the input reads as it did. -/
def fnSkipUptoRow : OpenClaim := { program := "ytdfefemnlimeeaadoor", sum := "e05335fc6d4c191e11e8a339cfb517225ad1ef155cace88a0b2713dbcded2c74", func := "given.example/pub-saddlebag/laws.FnSkip", spec := "fnSkip", recurses := true, named := ["given.example/pub-saddlebag/pub/msgp/msgp.ErrRecursion", "given.example/pub-saddlebag/pub/msgp/msgp.ErrShortBytes", "encoding/binary.BigEndian", "given.example/pub-saddlebag/pub/msgp/msgp.fatal"], ifaces := true, loops := true, apart := false, laid := [("given.example/pub-saddlebag/pub/msgp/msgp.ErrShortBytes", laid_given_example_pub_saddlebag_pub_msgp_msgp_ErrShortBytes), ("given.example/pub-saddlebag/pub/msgp/msgp.ErrRecursion", laid_given_example_pub_saddlebag_pub_msgp_msgp_ErrRecursion), ("given.example/pub-saddlebag/pub/msgp/msgp.fatal", laid_given_example_pub_saddlebag_pub_msgp_msgp_fatal)], narrowed := true }
def FnSkipUptoSaid : Prop := fnSkipUptoRow.holds Tryd.pinned (OpenSpec.upto fnSkipSpec)

/-- 'laws.FnGetInt8', WHERE WHAT IT READS IS OF BULK AT MOST 1048576: true; the input reads as it did. -/
def fnGetInt8UptoRow : OpenClaim := { program := "ytdfefemnlimeeaadoor", sum := "e05335fc6d4c191e11e8a339cfb517225ad1ef155cace88a0b2713dbcded2c74", func := "given.example/pub-saddlebag/laws.FnGetInt8", spec := "fnGetInt8", recurses := true, named := ["given.example/pub-saddlebag/pub/msgp/msgp.ErrShortBytes", "encoding/binary.BigEndian"], ifaces := true, loops := true, apart := false, laid := [("given.example/pub-saddlebag/pub/msgp/msgp.ErrShortBytes", laid_given_example_pub_saddlebag_pub_msgp_msgp_ErrShortBytes)], narrowed := true }
def FnGetInt8UptoSaid : Prop := fnGetInt8UptoRow.holds Tryd.pinned (OpenSpec.upto fnGetInt8Spec)

/-- 'laws.FnGetMapKey', WHERE WHAT IT READS IS OF BULK AT MOST 1048576: true; the input reads as it did. -/
def fnGetMapKeyUptoRow : OpenClaim := { program := "ytdfefemnlimeeaadoor", sum := "e05335fc6d4c191e11e8a339cfb517225ad1ef155cace88a0b2713dbcded2c74", func := "given.example/pub-saddlebag/laws.FnGetMapKey", spec := "fnGetMapKey", recurses := true, named := ["given.example/pub-saddlebag/pub/msgp/msgp.ErrShortBytes", "encoding/binary.BigEndian"], ifaces := true, loops := true, apart := false, laid := [("given.example/pub-saddlebag/pub/msgp/msgp.ErrShortBytes", laid_given_example_pub_saddlebag_pub_msgp_msgp_ErrShortBytes)], narrowed := true }
def FnGetMapKeyUptoSaid : Prop := fnGetMapKeyUptoRow.holds Tryd.pinned (OpenSpec.upto fnGetMapKeySpec)

/-- 'laws.FnGetUint8', WHERE WHAT IT READS IS OF BULK AT MOST 1048576: true; the input reads as it did. -/
def fnGetUint8UptoRow : OpenClaim := { program := "ytdfefemnlimeeaadoor", sum := "e05335fc6d4c191e11e8a339cfb517225ad1ef155cace88a0b2713dbcded2c74", func := "given.example/pub-saddlebag/laws.FnGetUint8", spec := "fnGetUint8", recurses := true, named := ["given.example/pub-saddlebag/pub/msgp/msgp.ErrShortBytes", "encoding/binary.BigEndian"], ifaces := true, loops := true, apart := false, laid := [("given.example/pub-saddlebag/pub/msgp/msgp.ErrShortBytes", laid_given_example_pub_saddlebag_pub_msgp_msgp_ErrShortBytes)], narrowed := true }
def FnGetUint8UptoSaid : Prop := fnGetUint8UptoRow.holds Tryd.pinned (OpenSpec.upto fnGetUint8Spec)

end Rows
end Go.Proofs.YtdfefemnlimeeaaDoor
