/-
  NARROWER THAN 'FOR EVERY INPUT', by the rows' own cells (each row's printed sentence says how): FnWidths: laid · FnCanEncode: laid · FnInverse: laid · FnSpoiltByte: laid · FnSteps: laid · FnExactToValid: laid · FnToValidJoin: laid · FnToValidSplit: laid · FnToValidTwice: laid · FnFirst: laid · FnValidText: laid · FnToValidByRange: laid.
  DERIVED. THE GIVEN ROWS OF THIS SEAT. 12 by the template 'for every input the law returns true; each argument reads behind the call as it read before'; 0 by the template 'total and deterministic' (their statements: YtcgpnmlemjldaaaDoorTotals.lean).
  GIVEN WITH THE SEED: the statements are not yours to turn. If you find one false, say at which input.
  Laid BY PROGRAM, IN A SANDBOX (cutbox-rows.mjs): the forced cells as the released guide's own fill.sh prints them over the translation d14d683ba318d605… (all of the seat's roots in one cut). By AI agents, Wed Nov 11 2026. No macro, syntax, notation, axiom, sorry.
-/
import Derived.Test.YtcgpnmlemjldaaaDoorChecked
import GoSem.PinnedTables
import GoSem.Claim
import GoSem.ClaimJoined
import GoSem.ClaimMapViews
import Derived.JoinedTies
import Derived.KernelRfl
namespace Go.Proofs.YtcgpnmlemjldaaaDoor
/- THE CELL 'sum', in the pinned program and in every row, IS THE sha256 OF THE DUMP (.gsa) THAT YtcgpnmlemjldaaaDoorProg.lean LOADS. Nothing in Lean hashes anything: it is a label: what it is worth is what the hold of that sum in a sandbox is worth. -/
noncomputable def Tryd.pinned : Pinned := { name := "ytcgpnmlemjldaaadoor", sum := "d14d683ba318d605b3ff9ed4181a9174231142c392f8c699fa00c5231601afce", checked := Tryd.checked }
namespace Rows
def none {H : Type} : Left H := { results := [], args := [] }

/- WHAT THE LISTED PACKAGE-LEVEL VARIABLES READ AS WHEN THE CALL BEGINS. Each datum BY PROGRAM (the guide's laid-datum.mjs) off the statement by which the dump's own 'gosem.cut.vars' lays the variable. In a bare row this is a premise. The card (YtcgpnmlemjldaaaDoorCards.lean) ties it to the program's text. -/
def laid_unicode_utf8_acceptRanges {H : Type} : DataW H := .agg [.agg [.lit (.int .u8 128), .lit (.int .u8 191)], .agg [.lit (.int .u8 160), .lit (.int .u8 191)], .agg [.lit (.int .u8 128), .lit (.int .u8 159)], .agg [.lit (.int .u8 144), .lit (.int .u8 191)], .agg [.lit (.int .u8 128), .lit (.int .u8 143)], .agg [.lit (.int .u8 0), .lit (.int .u8 0)], .agg [.lit (.int .u8 0), .lit (.int .u8 0)], .agg [.lit (.int .u8 0), .lit (.int .u8 0)], .agg [.lit (.int .u8 0), .lit (.int .u8 0)], .agg [.lit (.int .u8 0), .lit (.int .u8 0)], .agg [.lit (.int .u8 0), .lit (.int .u8 0)], .agg [.lit (.int .u8 0), .lit (.int .u8 0)], .agg [.lit (.int .u8 0), .lit (.int .u8 0)], .agg [.lit (.int .u8 0), .lit (.int .u8 0)], .agg [.lit (.int .u8 0), .lit (.int .u8 0)], .agg [.lit (.int .u8 0), .lit (.int .u8 0)]]
/-- One of Go's own tables, pinned by name: the form's constant. -/
def laid_unicode_utf8_first : DataW Unit := Go.Pinned.utf8First

/-- 'laws.FnWidths': WHATEVER THE INPUT: true; the input reads as it did. -/
def fnWidthsSpec : ChangeSpec := { name := "fnWidths", fn := fun _ => fun
  | [d] => { results := [.lit (.bool true)], args := [d] }
  | _ => none }
def fnWidthsRow : OpenClaim := { program := "ytcgpnmlemjldaaadoor", sum := "d14d683ba318d605b3ff9ed4181a9174231142c392f8c699fa00c5231601afce", func := "loop.example/lib-g01185/laws.FnWidths", spec := "fnWidths", named := ["unicode/utf8.first", "unicode/utf8.acceptRanges"], apart := false, laid := [("unicode/utf8.acceptRanges", laid_unicode_utf8_acceptRanges), ("unicode/utf8.first", laid_unicode_utf8_first)] }
def FnWidthsSaid : Prop := fnWidthsRow.holds Tryd.pinned (OpenSpec.ofChange fnWidthsSpec)

/-- ITS FALSE NEIGHBOUR: 'it returns false'. Refute it at one input. -/
def fnWidthsWrong : ChangeSpec := { name := "fnWidths", fn := fun _ => fun
  | [d] => { results := [.lit (.bool false)], args := [d] }
  | _ => none }
def FnWidthsWrongFalsely : Prop := fnWidthsRow.holds Tryd.pinned (OpenSpec.ofChange fnWidthsWrong)

/-- 'laws.FnCanEncode': WHATEVER THE INPUT: true; the input reads as it did. -/
def fnCanEncodeSpec : ChangeSpec := { name := "fnCanEncode", fn := fun _ => fun
  | [d] => { results := [.lit (.bool true)], args := [d] }
  | _ => none }
def fnCanEncodeRow : OpenClaim := { program := "ytcgpnmlemjldaaadoor", sum := "d14d683ba318d605b3ff9ed4181a9174231142c392f8c699fa00c5231601afce", func := "loop.example/lib-g01185/laws.FnCanEncode", spec := "fnCanEncode", named := ["unicode/utf8.first", "unicode/utf8.acceptRanges"], apart := false, laid := [("unicode/utf8.acceptRanges", laid_unicode_utf8_acceptRanges), ("unicode/utf8.first", laid_unicode_utf8_first)] }
def FnCanEncodeSaid : Prop := fnCanEncodeRow.holds Tryd.pinned (OpenSpec.ofChange fnCanEncodeSpec)

/-- ITS FALSE NEIGHBOUR: 'it returns false'. Refute it at one input. -/
def fnCanEncodeWrong : ChangeSpec := { name := "fnCanEncode", fn := fun _ => fun
  | [d] => { results := [.lit (.bool false)], args := [d] }
  | _ => none }
def FnCanEncodeWrongFalsely : Prop := fnCanEncodeRow.holds Tryd.pinned (OpenSpec.ofChange fnCanEncodeWrong)

/-- 'laws.FnInverse': WHATEVER THE INPUT: true; the input reads as it did. -/
def fnInverseSpec : ChangeSpec := { name := "fnInverse", fn := fun _ => fun
  | [d] => { results := [.lit (.bool true)], args := [d] }
  | _ => none }
def fnInverseRow : OpenClaim := { program := "ytcgpnmlemjldaaadoor", sum := "d14d683ba318d605b3ff9ed4181a9174231142c392f8c699fa00c5231601afce", func := "loop.example/lib-g01185/laws.FnInverse", spec := "fnInverse", named := ["unicode/utf8.first", "unicode/utf8.acceptRanges"], apart := false, laid := [("unicode/utf8.acceptRanges", laid_unicode_utf8_acceptRanges), ("unicode/utf8.first", laid_unicode_utf8_first)] }
def FnInverseSaid : Prop := fnInverseRow.holds Tryd.pinned (OpenSpec.ofChange fnInverseSpec)

/-- ITS FALSE NEIGHBOUR: 'it returns false'. Refute it at one input. -/
def fnInverseWrong : ChangeSpec := { name := "fnInverse", fn := fun _ => fun
  | [d] => { results := [.lit (.bool false)], args := [d] }
  | _ => none }
def FnInverseWrongFalsely : Prop := fnInverseRow.holds Tryd.pinned (OpenSpec.ofChange fnInverseWrong)

/-- 'laws.FnSpoiltByte': WHATEVER THE INPUT: true; the input reads as it did. -/
def fnSpoiltByteSpec : ChangeSpec := { name := "fnSpoiltByte", fn := fun _ => fun
  | [d1, d2, d3, d4] => { results := [.lit (.bool true)], args := [d1, d2, d3, d4] }
  | _ => none }
def fnSpoiltByteRow : OpenClaim := { program := "ytcgpnmlemjldaaadoor", sum := "d14d683ba318d605b3ff9ed4181a9174231142c392f8c699fa00c5231601afce", func := "loop.example/lib-g01185/laws.FnSpoiltByte", spec := "fnSpoiltByte", named := ["unicode/utf8.first", "unicode/utf8.acceptRanges"], apart := false, laid := [("unicode/utf8.acceptRanges", laid_unicode_utf8_acceptRanges), ("unicode/utf8.first", laid_unicode_utf8_first)] }
def FnSpoiltByteSaid : Prop := fnSpoiltByteRow.holds Tryd.pinned (OpenSpec.ofChange fnSpoiltByteSpec)

/-- ITS FALSE NEIGHBOUR: 'it returns false'. Refute it at one input. -/
def fnSpoiltByteWrong : ChangeSpec := { name := "fnSpoiltByte", fn := fun _ => fun
  | [d1, d2, d3, d4] => { results := [.lit (.bool false)], args := [d1, d2, d3, d4] }
  | _ => none }
def FnSpoiltByteWrongFalsely : Prop := fnSpoiltByteRow.holds Tryd.pinned (OpenSpec.ofChange fnSpoiltByteWrong)

/-- 'laws.FnSteps': WHATEVER THE INPUT: true; the input reads as it did. -/
def fnStepsSpec : ChangeSpec := { name := "fnSteps", fn := fun _ => fun
  | [d] => { results := [.lit (.bool true)], args := [d] }
  | _ => none }
def fnStepsRow : OpenClaim := { program := "ytcgpnmlemjldaaadoor", sum := "d14d683ba318d605b3ff9ed4181a9174231142c392f8c699fa00c5231601afce", func := "loop.example/lib-g01185/laws.FnSteps", spec := "fnSteps", named := ["unicode/utf8.first", "unicode/utf8.acceptRanges"], apart := false, laid := [("unicode/utf8.acceptRanges", laid_unicode_utf8_acceptRanges), ("unicode/utf8.first", laid_unicode_utf8_first)] }
def FnStepsSaid : Prop := fnStepsRow.holds Tryd.pinned (OpenSpec.ofChange fnStepsSpec)

/-- ITS FALSE NEIGHBOUR: 'it returns false'. Refute it at one input. -/
def fnStepsWrong : ChangeSpec := { name := "fnSteps", fn := fun _ => fun
  | [d] => { results := [.lit (.bool false)], args := [d] }
  | _ => none }
def FnStepsWrongFalsely : Prop := fnStepsRow.holds Tryd.pinned (OpenSpec.ofChange fnStepsWrong)

/-- 'laws.FnExactToValid': WHATEVER THE INPUT: true; the input reads as it did. -/
def fnExactToValidSpec : ChangeSpec := { name := "fnExactToValid", fn := fun _ => fun
  | [d1, d2] => { results := [.lit (.bool true)], args := [d1, d2] }
  | _ => none }
def fnExactToValidRow : OpenClaim := { program := "ytcgpnmlemjldaaadoor", sum := "d14d683ba318d605b3ff9ed4181a9174231142c392f8c699fa00c5231601afce", func := "loop.example/lib-g01185/laws.FnExactToValid", spec := "fnExactToValid", inPlace := ["internal/abi.NoEscape", "internal/bytealg.MakeNoZero"], named := ["unicode/utf8.first", "unicode/utf8.acceptRanges"], apart := false, laid := [("unicode/utf8.acceptRanges", laid_unicode_utf8_acceptRanges), ("unicode/utf8.first", laid_unicode_utf8_first)] }
def FnExactToValidSaid : Prop := fnExactToValidRow.holds Tryd.pinned (OpenSpec.ofChange fnExactToValidSpec)

/-- ITS FALSE NEIGHBOUR: 'it returns false'. Refute it at one input. -/
def fnExactToValidWrong : ChangeSpec := { name := "fnExactToValid", fn := fun _ => fun
  | [d1, d2] => { results := [.lit (.bool false)], args := [d1, d2] }
  | _ => none }
def FnExactToValidWrongFalsely : Prop := fnExactToValidRow.holds Tryd.pinned (OpenSpec.ofChange fnExactToValidWrong)

/-- 'laws.FnToValidJoin': WHATEVER THE INPUT: true; the input reads as it did. -/
def fnToValidJoinSpec : ChangeSpec := { name := "fnToValidJoin", fn := fun _ => fun
  | [d1, d2, d3] => { results := [.lit (.bool true)], args := [d1, d2, d3] }
  | _ => none }
def fnToValidJoinRow : OpenClaim := { program := "ytcgpnmlemjldaaadoor", sum := "d14d683ba318d605b3ff9ed4181a9174231142c392f8c699fa00c5231601afce", func := "loop.example/lib-g01185/laws.FnToValidJoin", spec := "fnToValidJoin", inPlace := ["internal/abi.NoEscape", "internal/bytealg.MakeNoZero"], named := ["unicode/utf8.first", "unicode/utf8.acceptRanges"], apart := false, laid := [("unicode/utf8.acceptRanges", laid_unicode_utf8_acceptRanges), ("unicode/utf8.first", laid_unicode_utf8_first)] }
def FnToValidJoinSaid : Prop := fnToValidJoinRow.holds Tryd.pinned (OpenSpec.ofChange fnToValidJoinSpec)

/-- ITS FALSE NEIGHBOUR: 'it returns false'. Refute it at one input. -/
def fnToValidJoinWrong : ChangeSpec := { name := "fnToValidJoin", fn := fun _ => fun
  | [d1, d2, d3] => { results := [.lit (.bool false)], args := [d1, d2, d3] }
  | _ => none }
def FnToValidJoinWrongFalsely : Prop := fnToValidJoinRow.holds Tryd.pinned (OpenSpec.ofChange fnToValidJoinWrong)

/-- 'laws.FnToValidSplit': WHATEVER THE INPUT: true; the input reads as it did. -/
def fnToValidSplitSpec : ChangeSpec := { name := "fnToValidSplit", fn := fun _ => fun
  | [d1, d2, d3, d4] => { results := [.lit (.bool true)], args := [d1, d2, d3, d4] }
  | _ => none }
def fnToValidSplitRow : OpenClaim := { program := "ytcgpnmlemjldaaadoor", sum := "d14d683ba318d605b3ff9ed4181a9174231142c392f8c699fa00c5231601afce", func := "loop.example/lib-g01185/laws.FnToValidSplit", spec := "fnToValidSplit", inPlace := ["internal/abi.NoEscape", "internal/bytealg.MakeNoZero"], named := ["unicode/utf8.first", "unicode/utf8.acceptRanges"], apart := false, laid := [("unicode/utf8.acceptRanges", laid_unicode_utf8_acceptRanges), ("unicode/utf8.first", laid_unicode_utf8_first)] }
def FnToValidSplitSaid : Prop := fnToValidSplitRow.holds Tryd.pinned (OpenSpec.ofChange fnToValidSplitSpec)

/-- ITS FALSE NEIGHBOUR: 'it returns false'. Refute it at one input. -/
def fnToValidSplitWrong : ChangeSpec := { name := "fnToValidSplit", fn := fun _ => fun
  | [d1, d2, d3, d4] => { results := [.lit (.bool false)], args := [d1, d2, d3, d4] }
  | _ => none }
def FnToValidSplitWrongFalsely : Prop := fnToValidSplitRow.holds Tryd.pinned (OpenSpec.ofChange fnToValidSplitWrong)

/-- 'laws.FnToValidTwice': WHATEVER THE INPUT: true; the input reads as it did. -/
def fnToValidTwiceSpec : ChangeSpec := { name := "fnToValidTwice", fn := fun _ => fun
  | [d1, d2] => { results := [.lit (.bool true)], args := [d1, d2] }
  | _ => none }
def fnToValidTwiceRow : OpenClaim := { program := "ytcgpnmlemjldaaadoor", sum := "d14d683ba318d605b3ff9ed4181a9174231142c392f8c699fa00c5231601afce", func := "loop.example/lib-g01185/laws.FnToValidTwice", spec := "fnToValidTwice", inPlace := ["internal/abi.NoEscape", "internal/bytealg.MakeNoZero"], named := ["unicode/utf8.first", "unicode/utf8.acceptRanges"], apart := false, laid := [("unicode/utf8.acceptRanges", laid_unicode_utf8_acceptRanges), ("unicode/utf8.first", laid_unicode_utf8_first)] }
def FnToValidTwiceSaid : Prop := fnToValidTwiceRow.holds Tryd.pinned (OpenSpec.ofChange fnToValidTwiceSpec)

/-- ITS FALSE NEIGHBOUR: 'it returns false'. Refute it at one input. -/
def fnToValidTwiceWrong : ChangeSpec := { name := "fnToValidTwice", fn := fun _ => fun
  | [d1, d2] => { results := [.lit (.bool false)], args := [d1, d2] }
  | _ => none }
def FnToValidTwiceWrongFalsely : Prop := fnToValidTwiceRow.holds Tryd.pinned (OpenSpec.ofChange fnToValidTwiceWrong)

/-- 'laws.FnFirst': WHATEVER THE INPUT: true; the input reads as it did. -/
def fnFirstSpec : ChangeSpec := { name := "fnFirst", fn := fun _ => fun
  | [d1, d2] => { results := [.lit (.bool true)], args := [d1, d2] }
  | _ => none }
def fnFirstRow : OpenClaim := { program := "ytcgpnmlemjldaaadoor", sum := "d14d683ba318d605b3ff9ed4181a9174231142c392f8c699fa00c5231601afce", func := "loop.example/lib-g01185/laws.FnFirst", spec := "fnFirst", named := ["unicode/utf8.first", "unicode/utf8.acceptRanges"], apart := false, laid := [("unicode/utf8.acceptRanges", laid_unicode_utf8_acceptRanges), ("unicode/utf8.first", laid_unicode_utf8_first)] }
def FnFirstSaid : Prop := fnFirstRow.holds Tryd.pinned (OpenSpec.ofChange fnFirstSpec)

/-- ITS FALSE NEIGHBOUR: 'it returns false'. Refute it at one input. -/
def fnFirstWrong : ChangeSpec := { name := "fnFirst", fn := fun _ => fun
  | [d1, d2] => { results := [.lit (.bool false)], args := [d1, d2] }
  | _ => none }
def FnFirstWrongFalsely : Prop := fnFirstRow.holds Tryd.pinned (OpenSpec.ofChange fnFirstWrong)

/-- 'laws.FnValidText': WHATEVER THE INPUT: true; the input reads as it did. -/
def fnValidTextSpec : ChangeSpec := { name := "fnValidText", fn := fun _ => fun
  | [d] => { results := [.lit (.bool true)], args := [d] }
  | _ => none }
def fnValidTextRow : OpenClaim := { program := "ytcgpnmlemjldaaadoor", sum := "d14d683ba318d605b3ff9ed4181a9174231142c392f8c699fa00c5231601afce", func := "loop.example/lib-g01185/laws.FnValidText", spec := "fnValidText", named := ["unicode/utf8.first", "unicode/utf8.acceptRanges"], apart := false, laid := [("unicode/utf8.acceptRanges", laid_unicode_utf8_acceptRanges), ("unicode/utf8.first", laid_unicode_utf8_first)] }
def FnValidTextSaid : Prop := fnValidTextRow.holds Tryd.pinned (OpenSpec.ofChange fnValidTextSpec)

/-- ITS FALSE NEIGHBOUR: 'it returns false'. Refute it at one input. -/
def fnValidTextWrong : ChangeSpec := { name := "fnValidText", fn := fun _ => fun
  | [d] => { results := [.lit (.bool false)], args := [d] }
  | _ => none }
def FnValidTextWrongFalsely : Prop := fnValidTextRow.holds Tryd.pinned (OpenSpec.ofChange fnValidTextWrong)

/-- 'laws.FnToValidByRange': WHATEVER THE INPUT: true; the input reads as it did. -/
def fnToValidByRangeSpec : ChangeSpec := { name := "fnToValidByRange", fn := fun _ => fun
  | [d1, d2] => { results := [.lit (.bool true)], args := [d1, d2] }
  | _ => none }
def fnToValidByRangeRow : OpenClaim := { program := "ytcgpnmlemjldaaadoor", sum := "d14d683ba318d605b3ff9ed4181a9174231142c392f8c699fa00c5231601afce", func := "loop.example/lib-g01185/laws.FnToValidByRange", spec := "fnToValidByRange", inPlace := ["internal/abi.NoEscape", "internal/bytealg.MakeNoZero"], named := ["unicode/utf8.first", "unicode/utf8.acceptRanges"], apart := false, laid := [("unicode/utf8.acceptRanges", laid_unicode_utf8_acceptRanges), ("unicode/utf8.first", laid_unicode_utf8_first)] }
def FnToValidByRangeSaid : Prop := fnToValidByRangeRow.holds Tryd.pinned (OpenSpec.ofChange fnToValidByRangeSpec)

/-- ITS FALSE NEIGHBOUR: 'it returns false'. Refute it at one input. -/
def fnToValidByRangeWrong : ChangeSpec := { name := "fnToValidByRange", fn := fun _ => fun
  | [d1, d2] => { results := [.lit (.bool false)], args := [d1, d2] }
  | _ => none }
def FnToValidByRangeWrongFalsely : Prop := fnToValidByRangeRow.holds Tryd.pinned (OpenSpec.ofChange fnToValidByRangeWrong)

/- THE SECOND FORM. 'bulk': how many values and letters a reading holds, each counted each time it is reached (what is shared counts as often as it is met; a slice's spare places count too). A statement '..UptoSaid' is the law's where the arguments, and the package variables that the reading takes, are together of bulk at most 1048576: NARROWER than '..Said'. Prove '..Said' where nothing that the law and all that it calls make is longer than what came in: it says more and counts as full. Else prove '..UptoSaid'. A law counts once. -/
mutual
def uptoBulk {H : Type} : DataW H → Nat
  | .lit (.string bytes) => bytes.length + 1
  | .lit _ => 1
  | .nil => 1
  | .ptr d => uptoBulk d + 1
  | .slice elems spare => uptoBulkAll elems + uptoBulkAll spare + 1
  | .agg parts => uptoBulkAll parts + 1
  | .iface _ d => uptoBulk d + 1
  | .map entries => uptoBulkEntries entries + 1
  | .held _ => 1
def uptoBulkAll {H : Type} : List (DataW H) → Nat
  | [] => 0
  | d :: r => uptoBulk d + uptoBulkAll r
def uptoBulkEntries {H : Type} : List (Lit × DataW H) → Nat
  | [] => 0
  | x :: r => uptoBulkEntry x + uptoBulkEntries r
def uptoBulkEntry {H : Type} : Lit × DataW H → Nat
  | (.string bytes, d) => bytes.length + uptoBulk d + 1
  | (_, d) => uptoBulk d + 1
 end
def uptoSmall : (H : Type) → List (DataW H) → Bool := fun _ ds => decide (uptoBulkAll ds ≤ 1048576)
def OpenSpec.upto (s : _root_.Go.ChangeSpec) : _root_.Go.OpenSpec := { _root_.Go.OpenSpec.ofChange s with cond := some uptoSmall }

/-- 'laws.FnWidths', WHERE WHAT IT READS IS OF BULK AT MOST 1048576: true; the input reads as it did. -/
def fnWidthsUptoRow : OpenClaim := { program := "ytcgpnmlemjldaaadoor", sum := "d14d683ba318d605b3ff9ed4181a9174231142c392f8c699fa00c5231601afce", func := "loop.example/lib-g01185/laws.FnWidths", spec := "fnWidths", named := ["unicode/utf8.first", "unicode/utf8.acceptRanges"], apart := false, laid := [("unicode/utf8.acceptRanges", laid_unicode_utf8_acceptRanges), ("unicode/utf8.first", laid_unicode_utf8_first)], narrowed := true }
def FnWidthsUptoSaid : Prop := fnWidthsUptoRow.holds Tryd.pinned (OpenSpec.upto fnWidthsSpec)

/-- 'laws.FnCanEncode', WHERE WHAT IT READS IS OF BULK AT MOST 1048576: true; the input reads as it did. -/
def fnCanEncodeUptoRow : OpenClaim := { program := "ytcgpnmlemjldaaadoor", sum := "d14d683ba318d605b3ff9ed4181a9174231142c392f8c699fa00c5231601afce", func := "loop.example/lib-g01185/laws.FnCanEncode", spec := "fnCanEncode", named := ["unicode/utf8.first", "unicode/utf8.acceptRanges"], apart := false, laid := [("unicode/utf8.acceptRanges", laid_unicode_utf8_acceptRanges), ("unicode/utf8.first", laid_unicode_utf8_first)], narrowed := true }
def FnCanEncodeUptoSaid : Prop := fnCanEncodeUptoRow.holds Tryd.pinned (OpenSpec.upto fnCanEncodeSpec)

/-- 'laws.FnInverse', WHERE WHAT IT READS IS OF BULK AT MOST 1048576: true; the input reads as it did. -/
def fnInverseUptoRow : OpenClaim := { program := "ytcgpnmlemjldaaadoor", sum := "d14d683ba318d605b3ff9ed4181a9174231142c392f8c699fa00c5231601afce", func := "loop.example/lib-g01185/laws.FnInverse", spec := "fnInverse", named := ["unicode/utf8.first", "unicode/utf8.acceptRanges"], apart := false, laid := [("unicode/utf8.acceptRanges", laid_unicode_utf8_acceptRanges), ("unicode/utf8.first", laid_unicode_utf8_first)], narrowed := true }
def FnInverseUptoSaid : Prop := fnInverseUptoRow.holds Tryd.pinned (OpenSpec.upto fnInverseSpec)

/-- 'laws.FnSpoiltByte', WHERE WHAT IT READS IS OF BULK AT MOST 1048576: true; the input reads as it did. -/
def fnSpoiltByteUptoRow : OpenClaim := { program := "ytcgpnmlemjldaaadoor", sum := "d14d683ba318d605b3ff9ed4181a9174231142c392f8c699fa00c5231601afce", func := "loop.example/lib-g01185/laws.FnSpoiltByte", spec := "fnSpoiltByte", named := ["unicode/utf8.first", "unicode/utf8.acceptRanges"], apart := false, laid := [("unicode/utf8.acceptRanges", laid_unicode_utf8_acceptRanges), ("unicode/utf8.first", laid_unicode_utf8_first)], narrowed := true }
def FnSpoiltByteUptoSaid : Prop := fnSpoiltByteUptoRow.holds Tryd.pinned (OpenSpec.upto fnSpoiltByteSpec)

/-- 'laws.FnSteps', WHERE WHAT IT READS IS OF BULK AT MOST 1048576: true; the input reads as it did. -/
def fnStepsUptoRow : OpenClaim := { program := "ytcgpnmlemjldaaadoor", sum := "d14d683ba318d605b3ff9ed4181a9174231142c392f8c699fa00c5231601afce", func := "loop.example/lib-g01185/laws.FnSteps", spec := "fnSteps", named := ["unicode/utf8.first", "unicode/utf8.acceptRanges"], apart := false, laid := [("unicode/utf8.acceptRanges", laid_unicode_utf8_acceptRanges), ("unicode/utf8.first", laid_unicode_utf8_first)], narrowed := true }
def FnStepsUptoSaid : Prop := fnStepsUptoRow.holds Tryd.pinned (OpenSpec.upto fnStepsSpec)

/-- 'laws.FnExactToValid', WHERE WHAT IT READS IS OF BULK AT MOST 1048576: true; the input reads as it did. -/
def fnExactToValidUptoRow : OpenClaim := { program := "ytcgpnmlemjldaaadoor", sum := "d14d683ba318d605b3ff9ed4181a9174231142c392f8c699fa00c5231601afce", func := "loop.example/lib-g01185/laws.FnExactToValid", spec := "fnExactToValid", inPlace := ["internal/abi.NoEscape", "internal/bytealg.MakeNoZero"], named := ["unicode/utf8.first", "unicode/utf8.acceptRanges"], apart := false, laid := [("unicode/utf8.acceptRanges", laid_unicode_utf8_acceptRanges), ("unicode/utf8.first", laid_unicode_utf8_first)], narrowed := true }
def FnExactToValidUptoSaid : Prop := fnExactToValidUptoRow.holds Tryd.pinned (OpenSpec.upto fnExactToValidSpec)

/-- 'laws.FnToValidJoin', WHERE WHAT IT READS IS OF BULK AT MOST 1048576: true; the input reads as it did. -/
def fnToValidJoinUptoRow : OpenClaim := { program := "ytcgpnmlemjldaaadoor", sum := "d14d683ba318d605b3ff9ed4181a9174231142c392f8c699fa00c5231601afce", func := "loop.example/lib-g01185/laws.FnToValidJoin", spec := "fnToValidJoin", inPlace := ["internal/abi.NoEscape", "internal/bytealg.MakeNoZero"], named := ["unicode/utf8.first", "unicode/utf8.acceptRanges"], apart := false, laid := [("unicode/utf8.acceptRanges", laid_unicode_utf8_acceptRanges), ("unicode/utf8.first", laid_unicode_utf8_first)], narrowed := true }
def FnToValidJoinUptoSaid : Prop := fnToValidJoinUptoRow.holds Tryd.pinned (OpenSpec.upto fnToValidJoinSpec)

/-- 'laws.FnToValidSplit', WHERE WHAT IT READS IS OF BULK AT MOST 1048576: true; the input reads as it did. -/
def fnToValidSplitUptoRow : OpenClaim := { program := "ytcgpnmlemjldaaadoor", sum := "d14d683ba318d605b3ff9ed4181a9174231142c392f8c699fa00c5231601afce", func := "loop.example/lib-g01185/laws.FnToValidSplit", spec := "fnToValidSplit", inPlace := ["internal/abi.NoEscape", "internal/bytealg.MakeNoZero"], named := ["unicode/utf8.first", "unicode/utf8.acceptRanges"], apart := false, laid := [("unicode/utf8.acceptRanges", laid_unicode_utf8_acceptRanges), ("unicode/utf8.first", laid_unicode_utf8_first)], narrowed := true }
def FnToValidSplitUptoSaid : Prop := fnToValidSplitUptoRow.holds Tryd.pinned (OpenSpec.upto fnToValidSplitSpec)

/-- 'laws.FnToValidTwice', WHERE WHAT IT READS IS OF BULK AT MOST 1048576: true; the input reads as it did. -/
def fnToValidTwiceUptoRow : OpenClaim := { program := "ytcgpnmlemjldaaadoor", sum := "d14d683ba318d605b3ff9ed4181a9174231142c392f8c699fa00c5231601afce", func := "loop.example/lib-g01185/laws.FnToValidTwice", spec := "fnToValidTwice", inPlace := ["internal/abi.NoEscape", "internal/bytealg.MakeNoZero"], named := ["unicode/utf8.first", "unicode/utf8.acceptRanges"], apart := false, laid := [("unicode/utf8.acceptRanges", laid_unicode_utf8_acceptRanges), ("unicode/utf8.first", laid_unicode_utf8_first)], narrowed := true }
def FnToValidTwiceUptoSaid : Prop := fnToValidTwiceUptoRow.holds Tryd.pinned (OpenSpec.upto fnToValidTwiceSpec)

/-- 'laws.FnFirst', WHERE WHAT IT READS IS OF BULK AT MOST 1048576: true; the input reads as it did. -/
def fnFirstUptoRow : OpenClaim := { program := "ytcgpnmlemjldaaadoor", sum := "d14d683ba318d605b3ff9ed4181a9174231142c392f8c699fa00c5231601afce", func := "loop.example/lib-g01185/laws.FnFirst", spec := "fnFirst", named := ["unicode/utf8.first", "unicode/utf8.acceptRanges"], apart := false, laid := [("unicode/utf8.acceptRanges", laid_unicode_utf8_acceptRanges), ("unicode/utf8.first", laid_unicode_utf8_first)], narrowed := true }
def FnFirstUptoSaid : Prop := fnFirstUptoRow.holds Tryd.pinned (OpenSpec.upto fnFirstSpec)

/-- 'laws.FnValidText', WHERE WHAT IT READS IS OF BULK AT MOST 1048576: true; the input reads as it did. -/
def fnValidTextUptoRow : OpenClaim := { program := "ytcgpnmlemjldaaadoor", sum := "d14d683ba318d605b3ff9ed4181a9174231142c392f8c699fa00c5231601afce", func := "loop.example/lib-g01185/laws.FnValidText", spec := "fnValidText", named := ["unicode/utf8.first", "unicode/utf8.acceptRanges"], apart := false, laid := [("unicode/utf8.acceptRanges", laid_unicode_utf8_acceptRanges), ("unicode/utf8.first", laid_unicode_utf8_first)], narrowed := true }
def FnValidTextUptoSaid : Prop := fnValidTextUptoRow.holds Tryd.pinned (OpenSpec.upto fnValidTextSpec)

/-- 'laws.FnToValidByRange', WHERE WHAT IT READS IS OF BULK AT MOST 1048576: true; the input reads as it did. -/
def fnToValidByRangeUptoRow : OpenClaim := { program := "ytcgpnmlemjldaaadoor", sum := "d14d683ba318d605b3ff9ed4181a9174231142c392f8c699fa00c5231601afce", func := "loop.example/lib-g01185/laws.FnToValidByRange", spec := "fnToValidByRange", inPlace := ["internal/abi.NoEscape", "internal/bytealg.MakeNoZero"], named := ["unicode/utf8.first", "unicode/utf8.acceptRanges"], apart := false, laid := [("unicode/utf8.acceptRanges", laid_unicode_utf8_acceptRanges), ("unicode/utf8.first", laid_unicode_utf8_first)], narrowed := true }
def FnToValidByRangeUptoSaid : Prop := fnToValidByRangeUptoRow.holds Tryd.pinned (OpenSpec.upto fnToValidByRangeSpec)

end Rows
end Go.Proofs.YtcgpnmlemjldaaaDoor
