/-
  No cell of these rows narrows 'for every input' (looked for: loops, veiled, ifaces, maps, wideKeys, modest, calm, conditions, laid).
  DERIVED. THE GIVEN ROWS OF THIS SEAT. 8 by the template 'for every input the law returns true; each argument reads behind the call as it read before'; 0 by the template 'total and deterministic' (their statements: YtmaofopbhlcgkaaTotals.lean).
  GIVEN WITH THE SEED: the statements are not yours to turn. If you find one false, say at which input.
  Laid BY PROGRAM, IN A SANDBOX (cutbox-rows.mjs): the forced cells as the released guide's own fill.sh prints them over the translation b40ec8b23d0c15c7… (all of the seat's roots in one cut). By AI agents, Wed Nov 11 2026. No macro, syntax, notation, axiom, sorry.
-/
import Derived.Test.YtmaofopbhlcgkaaChecked
import GoSem.Claim
import GoSem.ClaimJoined
import GoSem.ClaimMapViews
import Derived.JoinedTies
import Derived.KernelRfl
namespace Go.Proofs.Ytmaofopbhlcgkaa
/- THE CELL 'sum', in the pinned program and in every row, IS THE sha256 OF THE DUMP (.gsa) THAT YtmaofopbhlcgkaaProg.lean LOADS. Nothing in Lean hashes anything: it is a label: what it is worth is what the hold of that sum in a sandbox is worth. -/
noncomputable def Try.pinned : Pinned := { name := "ytmaofopbhlcgkaa", sum := "b40ec8b23d0c15c7f651d132723b8d15cab93a13b543d037191afac1e36392ef", checked := Try.checked }
namespace Rows
def none {H : Type} : Left H := { results := [], args := [] }

/-- 'laws.FnPutBool': WHATEVER THE INPUT: true; the input reads as it did. -/
def fnPutBoolSpec : ChangeSpec := { name := "fnPutBool", fn := fun _ => fun
  | [d1, d2] => { results := [.lit (.bool true)], args := [d1, d2] }
  | _ => none }
def fnPutBoolRow : OpenClaim := { program := "ytmaofopbhlcgkaa", sum := "b40ec8b23d0c15c7f651d132723b8d15cab93a13b543d037191afac1e36392ef", func := "given.example/pub-saddlebag/laws.FnPutBool", spec := "fnPutBool", recurses := true, apart := false }
def FnPutBoolSaid : Prop := fnPutBoolRow.holds Try.pinned (OpenSpec.ofChange fnPutBoolSpec)

/-- ITS FALSE NEIGHBOUR: 'it returns false'. Refute it at one input. -/
def fnPutBoolWrong : ChangeSpec := { name := "fnPutBool", fn := fun _ => fun
  | [d1, d2] => { results := [.lit (.bool false)], args := [d1, d2] }
  | _ => none }
def FnPutBoolWrongFalsely : Prop := fnPutBoolRow.holds Try.pinned (OpenSpec.ofChange fnPutBoolWrong)

/-- 'laws.FnPutBinHead': WHATEVER THE INPUT: true; the input reads as it did. -/
def fnPutBinHeadSpec : ChangeSpec := { name := "fnPutBinHead", fn := fun _ => fun
  | [d1, d2] => { results := [.lit (.bool true)], args := [d1, d2] }
  | _ => none }
def fnPutBinHeadRow : OpenClaim := { program := "ytmaofopbhlcgkaa", sum := "b40ec8b23d0c15c7f651d132723b8d15cab93a13b543d037191afac1e36392ef", func := "given.example/pub-saddlebag/laws.FnPutBinHead", spec := "fnPutBinHead", apart := false }
def FnPutBinHeadSaid : Prop := fnPutBinHeadRow.holds Try.pinned (OpenSpec.ofChange fnPutBinHeadSpec)

/-- ITS FALSE NEIGHBOUR: 'it returns false'. Refute it at one input. -/
def fnPutBinHeadWrong : ChangeSpec := { name := "fnPutBinHead", fn := fun _ => fun
  | [d1, d2] => { results := [.lit (.bool false)], args := [d1, d2] }
  | _ => none }
def FnPutBinHeadWrongFalsely : Prop := fnPutBinHeadRow.holds Try.pinned (OpenSpec.ofChange fnPutBinHeadWrong)

/-- 'laws.FnNumberFloat': WHATEVER THE INPUT: true; the input reads as it did. -/
def fnNumberFloatSpec : ChangeSpec := { name := "fnNumberFloat", fn := fun _ => fun
  | [d1, d2] => { results := [.lit (.bool true)], args := [d1, d2] }
  | _ => none }
def fnNumberFloatRow : OpenClaim := { program := "ytmaofopbhlcgkaa", sum := "b40ec8b23d0c15c7f651d132723b8d15cab93a13b543d037191afac1e36392ef", func := "given.example/pub-saddlebag/laws.FnNumberFloat", spec := "fnNumberFloat", inPlace := ["math.Float32frombits", "math.Float32bits", "math.Float64frombits", "math.Float64bits"], apart := false }
def FnNumberFloatSaid : Prop := fnNumberFloatRow.holds Try.pinned (OpenSpec.ofChange fnNumberFloatSpec)

/-- ITS FALSE NEIGHBOUR: 'it returns false'. Refute it at one input. -/
def fnNumberFloatWrong : ChangeSpec := { name := "fnNumberFloat", fn := fun _ => fun
  | [d1, d2] => { results := [.lit (.bool false)], args := [d1, d2] }
  | _ => none }
def FnNumberFloatWrongFalsely : Prop := fnNumberFloatRow.holds Try.pinned (OpenSpec.ofChange fnNumberFloatWrong)

/-- 'laws.FnPutTextBytes': WHATEVER THE INPUT: true; the input reads as it did. -/
def fnPutTextBytesSpec : ChangeSpec := { name := "fnPutTextBytes", fn := fun _ => fun
  | [d1, d2] => { results := [.lit (.bool true)], args := [d1, d2] }
  | _ => none }
def fnPutTextBytesRow : OpenClaim := { program := "ytmaofopbhlcgkaa", sum := "b40ec8b23d0c15c7f651d132723b8d15cab93a13b543d037191afac1e36392ef", func := "given.example/pub-saddlebag/laws.FnPutTextBytes", spec := "fnPutTextBytes", recurses := true, apart := false }
def FnPutTextBytesSaid : Prop := fnPutTextBytesRow.holds Try.pinned (OpenSpec.ofChange fnPutTextBytesSpec)

/-- ITS FALSE NEIGHBOUR: 'it returns false'. Refute it at one input. -/
def fnPutTextBytesWrong : ChangeSpec := { name := "fnPutTextBytes", fn := fun _ => fun
  | [d1, d2] => { results := [.lit (.bool false)], args := [d1, d2] }
  | _ => none }
def FnPutTextBytesWrongFalsely : Prop := fnPutTextBytesRow.holds Try.pinned (OpenSpec.ofChange fnPutTextBytesWrong)

/-- 'laws.FnPutUint32': WHATEVER THE INPUT: true; the input reads as it did. -/
def fnPutUint32Spec : ChangeSpec := { name := "fnPutUint32", fn := fun _ => fun
  | [d1, d2] => { results := [.lit (.bool true)], args := [d1, d2] }
  | _ => none }
def fnPutUint32Row : OpenClaim := { program := "ytmaofopbhlcgkaa", sum := "b40ec8b23d0c15c7f651d132723b8d15cab93a13b543d037191afac1e36392ef", func := "given.example/pub-saddlebag/laws.FnPutUint32", spec := "fnPutUint32", recurses := true, apart := false }
def FnPutUint32Said : Prop := fnPutUint32Row.holds Try.pinned (OpenSpec.ofChange fnPutUint32Spec)

/-- ITS FALSE NEIGHBOUR: 'it returns false'. Refute it at one input. -/
def fnPutUint32Wrong : ChangeSpec := { name := "fnPutUint32", fn := fun _ => fun
  | [d1, d2] => { results := [.lit (.bool false)], args := [d1, d2] }
  | _ => none }
def FnPutUint32WrongFalsely : Prop := fnPutUint32Row.holds Try.pinned (OpenSpec.ofChange fnPutUint32Wrong)

/-- 'laws.FnStreamPutBool': WHATEVER THE INPUT: true; the input reads as it did. -/
def fnStreamPutBoolSpec : ChangeSpec := { name := "fnStreamPutBool", fn := fun _ => fun
  | [d1, d2] => { results := [.lit (.bool true)], args := [d1, d2] }
  | _ => none }
def fnStreamPutBoolRow : OpenClaim := { program := "ytmaofopbhlcgkaa", sum := "b40ec8b23d0c15c7f651d132723b8d15cab93a13b543d037191afac1e36392ef", func := "given.example/pub-saddlebag/laws.FnStreamPutBool", spec := "fnStreamPutBool", unfollowed := true, recurses := true, apart := false }
def FnStreamPutBoolSaid : Prop := fnStreamPutBoolRow.holds Try.pinned (OpenSpec.ofChange fnStreamPutBoolSpec)

/-- ITS FALSE NEIGHBOUR: 'it returns false'. Refute it at one input. -/
def fnStreamPutBoolWrong : ChangeSpec := { name := "fnStreamPutBool", fn := fun _ => fun
  | [d1, d2] => { results := [.lit (.bool false)], args := [d1, d2] }
  | _ => none }
def FnStreamPutBoolWrongFalsely : Prop := fnStreamPutBoolRow.holds Try.pinned (OpenSpec.ofChange fnStreamPutBoolWrong)

/-- 'laws.FnPutInt32': WHATEVER THE INPUT: true; the input reads as it did. -/
def fnPutInt32Spec : ChangeSpec := { name := "fnPutInt32", fn := fun _ => fun
  | [d1, d2] => { results := [.lit (.bool true)], args := [d1, d2] }
  | _ => none }
def fnPutInt32Row : OpenClaim := { program := "ytmaofopbhlcgkaa", sum := "b40ec8b23d0c15c7f651d132723b8d15cab93a13b543d037191afac1e36392ef", func := "given.example/pub-saddlebag/laws.FnPutInt32", spec := "fnPutInt32", recurses := true, apart := false }
def FnPutInt32Said : Prop := fnPutInt32Row.holds Try.pinned (OpenSpec.ofChange fnPutInt32Spec)

/-- ITS FALSE NEIGHBOUR: 'it returns false'. Refute it at one input. -/
def fnPutInt32Wrong : ChangeSpec := { name := "fnPutInt32", fn := fun _ => fun
  | [d1, d2] => { results := [.lit (.bool false)], args := [d1, d2] }
  | _ => none }
def FnPutInt32WrongFalsely : Prop := fnPutInt32Row.holds Try.pinned (OpenSpec.ofChange fnPutInt32Wrong)

/-- 'laws.FnStreamPutBinHead': WHATEVER THE INPUT: true; the input reads as it did. -/
def fnStreamPutBinHeadSpec : ChangeSpec := { name := "fnStreamPutBinHead", fn := fun _ => fun
  | [d1, d2] => { results := [.lit (.bool true)], args := [d1, d2] }
  | _ => none }
def fnStreamPutBinHeadRow : OpenClaim := { program := "ytmaofopbhlcgkaa", sum := "b40ec8b23d0c15c7f651d132723b8d15cab93a13b543d037191afac1e36392ef", func := "given.example/pub-saddlebag/laws.FnStreamPutBinHead", spec := "fnStreamPutBinHead", unfollowed := true, recurses := true, apart := false }
def FnStreamPutBinHeadSaid : Prop := fnStreamPutBinHeadRow.holds Try.pinned (OpenSpec.ofChange fnStreamPutBinHeadSpec)

/-- ITS FALSE NEIGHBOUR: 'it returns false'. Refute it at one input. -/
def fnStreamPutBinHeadWrong : ChangeSpec := { name := "fnStreamPutBinHead", fn := fun _ => fun
  | [d1, d2] => { results := [.lit (.bool false)], args := [d1, d2] }
  | _ => none }
def FnStreamPutBinHeadWrongFalsely : Prop := fnStreamPutBinHeadRow.holds Try.pinned (OpenSpec.ofChange fnStreamPutBinHeadWrong)

/- THE SECOND FORM. 'bulk': how many values and letters a reading holds, each counted each time it is reached (what is shared counts as often as it is met; a slice's spare places count too). A statement '..UptoSaid' is the law's where the arguments, and the package variables that the reading takes, are together of bulk at most 1048576: NARROWER than '..Said'. Prove '..Said' where nothing that the law and all that it calls make is longer than what came in: it says more and counts as full. Else prove '..UptoSaid'. A law counts once. -/
mutual
def uptoBulk {H : Type} : DataW H → Nat
  | .lit (.string bytes) => bytes.length + 1
  | .lit _ => 1
  | .nil => 1
  | .ptr d => uptoBulk d + 1
  | .slice elems spare => uptoBulkAll elems + uptoBulkAll spare + 1
  | .agg parts => uptoBulkAll parts + 1
  | .iface _ d => uptoBulk d + 1
  | .map entries => uptoBulkEntries entries + 1
  | .held _ => 1
def uptoBulkAll {H : Type} : List (DataW H) → Nat
  | [] => 0
  | d :: r => uptoBulk d + uptoBulkAll r
def uptoBulkEntries {H : Type} : List (Lit × DataW H) → Nat
  | [] => 0
  | x :: r => uptoBulkEntry x + uptoBulkEntries r
def uptoBulkEntry {H : Type} : Lit × DataW H → Nat
  | (.string bytes, d) => bytes.length + uptoBulk d + 1
  | (_, d) => uptoBulk d + 1
 end
def uptoSmall : (H : Type) → List (DataW H) → Bool := fun _ ds => decide (uptoBulkAll ds ≤ 1048576)
def OpenSpec.upto (s : _root_.Go.ChangeSpec) : _root_.Go.OpenSpec := { _root_.Go.OpenSpec.ofChange s with cond := some uptoSmall }

/-- 'laws.FnPutBool', WHERE WHAT IT READS IS OF BULK AT MOST 1048576: true; the input reads as it did. -/
def fnPutBoolUptoRow : OpenClaim := { program := "ytmaofopbhlcgkaa", sum := "b40ec8b23d0c15c7f651d132723b8d15cab93a13b543d037191afac1e36392ef", func := "given.example/pub-saddlebag/laws.FnPutBool", spec := "fnPutBool", recurses := true, apart := false, narrowed := true }
def FnPutBoolUptoSaid : Prop := fnPutBoolUptoRow.holds Try.pinned (OpenSpec.upto fnPutBoolSpec)

/-- 'laws.FnPutBinHead', WHERE WHAT IT READS IS OF BULK AT MOST 1048576: true; the input reads as it did. -/
def fnPutBinHeadUptoRow : OpenClaim := { program := "ytmaofopbhlcgkaa", sum := "b40ec8b23d0c15c7f651d132723b8d15cab93a13b543d037191afac1e36392ef", func := "given.example/pub-saddlebag/laws.FnPutBinHead", spec := "fnPutBinHead", apart := false, narrowed := true }
def FnPutBinHeadUptoSaid : Prop := fnPutBinHeadUptoRow.holds Try.pinned (OpenSpec.upto fnPutBinHeadSpec)

/-- 'laws.FnNumberFloat', WHERE WHAT IT READS IS OF BULK AT MOST 1048576: true; the input reads as it did. -/
def fnNumberFloatUptoRow : OpenClaim := { program := "ytmaofopbhlcgkaa", sum := "b40ec8b23d0c15c7f651d132723b8d15cab93a13b543d037191afac1e36392ef", func := "given.example/pub-saddlebag/laws.FnNumberFloat", spec := "fnNumberFloat", inPlace := ["math.Float32frombits", "math.Float32bits", "math.Float64frombits", "math.Float64bits"], apart := false, narrowed := true }
def FnNumberFloatUptoSaid : Prop := fnNumberFloatUptoRow.holds Try.pinned (OpenSpec.upto fnNumberFloatSpec)

/-- 'laws.FnPutTextBytes', WHERE WHAT IT READS IS OF BULK AT MOST 1048576: true; the input reads as it did. -/
def fnPutTextBytesUptoRow : OpenClaim := { program := "ytmaofopbhlcgkaa", sum := "b40ec8b23d0c15c7f651d132723b8d15cab93a13b543d037191afac1e36392ef", func := "given.example/pub-saddlebag/laws.FnPutTextBytes", spec := "fnPutTextBytes", recurses := true, apart := false, narrowed := true }
def FnPutTextBytesUptoSaid : Prop := fnPutTextBytesUptoRow.holds Try.pinned (OpenSpec.upto fnPutTextBytesSpec)

/-- 'laws.FnPutUint32', WHERE WHAT IT READS IS OF BULK AT MOST 1048576: true; the input reads as it did. -/
def fnPutUint32UptoRow : OpenClaim := { program := "ytmaofopbhlcgkaa", sum := "b40ec8b23d0c15c7f651d132723b8d15cab93a13b543d037191afac1e36392ef", func := "given.example/pub-saddlebag/laws.FnPutUint32", spec := "fnPutUint32", recurses := true, apart := false, narrowed := true }
def FnPutUint32UptoSaid : Prop := fnPutUint32UptoRow.holds Try.pinned (OpenSpec.upto fnPutUint32Spec)

/-- 'laws.FnStreamPutBool', WHERE WHAT IT READS IS OF BULK AT MOST 1048576: true; the input reads as it did. -/
def fnStreamPutBoolUptoRow : OpenClaim := { program := "ytmaofopbhlcgkaa", sum := "b40ec8b23d0c15c7f651d132723b8d15cab93a13b543d037191afac1e36392ef", func := "given.example/pub-saddlebag/laws.FnStreamPutBool", spec := "fnStreamPutBool", unfollowed := true, recurses := true, apart := false, narrowed := true }
def FnStreamPutBoolUptoSaid : Prop := fnStreamPutBoolUptoRow.holds Try.pinned (OpenSpec.upto fnStreamPutBoolSpec)

/-- 'laws.FnPutInt32', WHERE WHAT IT READS IS OF BULK AT MOST 1048576: true; the input reads as it did. -/
def fnPutInt32UptoRow : OpenClaim := { program := "ytmaofopbhlcgkaa", sum := "b40ec8b23d0c15c7f651d132723b8d15cab93a13b543d037191afac1e36392ef", func := "given.example/pub-saddlebag/laws.FnPutInt32", spec := "fnPutInt32", recurses := true, apart := false, narrowed := true }
def FnPutInt32UptoSaid : Prop := fnPutInt32UptoRow.holds Try.pinned (OpenSpec.upto fnPutInt32Spec)

/-- 'laws.FnStreamPutBinHead', WHERE WHAT IT READS IS OF BULK AT MOST 1048576: true; the input reads as it did. -/
def fnStreamPutBinHeadUptoRow : OpenClaim := { program := "ytmaofopbhlcgkaa", sum := "b40ec8b23d0c15c7f651d132723b8d15cab93a13b543d037191afac1e36392ef", func := "given.example/pub-saddlebag/laws.FnStreamPutBinHead", spec := "fnStreamPutBinHead", unfollowed := true, recurses := true, apart := false, narrowed := true }
def FnStreamPutBinHeadUptoSaid : Prop := fnStreamPutBinHeadUptoRow.holds Try.pinned (OpenSpec.upto fnStreamPutBinHeadSpec)

end Rows
end Go.Proofs.Ytmaofopbhlcgkaa
