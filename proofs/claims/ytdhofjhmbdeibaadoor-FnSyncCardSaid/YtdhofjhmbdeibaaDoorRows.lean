/-
  NARROWER THAN 'FOR EVERY INPUT', by the rows' own cells (each row's printed sentence says how): FnRangeDecode: laid · FnCuts: laid · FnFullIsFinal: laid · FnStreamed: laid · FnExactDecodeLastRuneInString: laid · FnFound: laid · FnSync: laid · FnBackwards: laid · FnExactDecodeLastRune: laid · FnBothWays: laid · FnFour: laid · FnFurther: laid.
  DERIVED. THE GIVEN ROWS OF THIS SEAT. 12 by the template 'for every input the law returns true; each argument reads behind the call as it read before'; 0 by the template 'total and deterministic' (their statements: YtdhofjhmbdeibaaDoorTotals.lean).
  GIVEN WITH THE SEED: the statements are not yours to turn. If you find one false, say at which input.
  Laid BY PROGRAM, IN A SANDBOX (cutbox-rows.mjs): the forced cells as the released guide's own fill.sh prints them over the translation 824d913acef05940… (all of the seat's roots in one cut). By AI agents, Wed Nov 11 2026. No macro, syntax, notation, axiom, sorry.
-/
import Derived.Test.YtdhofjhmbdeibaaDoorChecked
import GoSem.PinnedTables
import GoSem.Claim
import GoSem.ClaimJoined
import GoSem.ClaimMapViews
import Derived.JoinedTies
import Derived.KernelRfl
namespace Go.Proofs.YtdhofjhmbdeibaaDoor
/- THE CELL 'sum', in the pinned program and in every row, IS THE sha256 OF THE DUMP (.gsa) THAT YtdhofjhmbdeibaaDoorProg.lean LOADS. Nothing in Lean hashes anything: it is a label: what it is worth is what the hold of that sum in a sandbox is worth. -/
noncomputable def Tryd.pinned : Pinned := { name := "ytdhofjhmbdeibaadoor", sum := "824d913acef059404a65b6a748aa2cabea014d19b4c7c86a553c735e63fea7ec", checked := Tryd.checked }
namespace Rows
def none {H : Type} : Left H := { results := [], args := [] }

/- WHAT THE LISTED PACKAGE-LEVEL VARIABLES READ AS WHEN THE CALL BEGINS. Each datum BY PROGRAM (the guide's laid-datum.mjs) off the statement by which the dump's own 'gosem.cut.vars' lays the variable. In a bare row this is a premise. The card (YtdhofjhmbdeibaaDoorCards.lean) ties it to the program's text. -/
def laid_unicode_utf8_acceptRanges {H : Type} : DataW H := .agg [.agg [.lit (.int .u8 128), .lit (.int .u8 191)], .agg [.lit (.int .u8 160), .lit (.int .u8 191)], .agg [.lit (.int .u8 128), .lit (.int .u8 159)], .agg [.lit (.int .u8 144), .lit (.int .u8 191)], .agg [.lit (.int .u8 128), .lit (.int .u8 143)], .agg [.lit (.int .u8 0), .lit (.int .u8 0)], .agg [.lit (.int .u8 0), .lit (.int .u8 0)], .agg [.lit (.int .u8 0), .lit (.int .u8 0)], .agg [.lit (.int .u8 0), .lit (.int .u8 0)], .agg [.lit (.int .u8 0), .lit (.int .u8 0)], .agg [.lit (.int .u8 0), .lit (.int .u8 0)], .agg [.lit (.int .u8 0), .lit (.int .u8 0)], .agg [.lit (.int .u8 0), .lit (.int .u8 0)], .agg [.lit (.int .u8 0), .lit (.int .u8 0)], .agg [.lit (.int .u8 0), .lit (.int .u8 0)], .agg [.lit (.int .u8 0), .lit (.int .u8 0)]]
/-- One of Go's own tables, pinned by name: the form's constant. -/
def laid_unicode_utf8_first : DataW Unit := Go.Pinned.utf8First

/-- 'laws.FnRangeDecode': WHATEVER THE INPUT: true; the input reads as it did. -/
def fnRangeDecodeSpec : ChangeSpec := { name := "fnRangeDecode", fn := fun _ => fun
  | [d] => { results := [.lit (.bool true)], args := [d] }
  | _ => none }
def fnRangeDecodeRow : OpenClaim := { program := "ytdhofjhmbdeibaadoor", sum := "824d913acef059404a65b6a748aa2cabea014d19b4c7c86a553c735e63fea7ec", func := "loop.example/lib-g01185/laws.FnRangeDecode", spec := "fnRangeDecode", named := ["unicode/utf8.first", "unicode/utf8.acceptRanges"], apart := false, laid := [("unicode/utf8.acceptRanges", laid_unicode_utf8_acceptRanges), ("unicode/utf8.first", laid_unicode_utf8_first)] }
def FnRangeDecodeSaid : Prop := fnRangeDecodeRow.holds Tryd.pinned (OpenSpec.ofChange fnRangeDecodeSpec)

/-- ITS FALSE NEIGHBOUR: 'it returns false'. Refute it at one input. -/
def fnRangeDecodeWrong : ChangeSpec := { name := "fnRangeDecode", fn := fun _ => fun
  | [d] => { results := [.lit (.bool false)], args := [d] }
  | _ => none }
def FnRangeDecodeWrongFalsely : Prop := fnRangeDecodeRow.holds Tryd.pinned (OpenSpec.ofChange fnRangeDecodeWrong)

/-- 'laws.FnCuts': WHATEVER THE INPUT: true; the input reads as it did. -/
def fnCutsSpec : ChangeSpec := { name := "fnCuts", fn := fun _ => fun
  | [d1, d2] => { results := [.lit (.bool true)], args := [d1, d2] }
  | _ => none }
def fnCutsRow : OpenClaim := { program := "ytdhofjhmbdeibaadoor", sum := "824d913acef059404a65b6a748aa2cabea014d19b4c7c86a553c735e63fea7ec", func := "loop.example/lib-g01185/laws.FnCuts", spec := "fnCuts", named := ["unicode/utf8.first", "unicode/utf8.acceptRanges"], apart := false, laid := [("unicode/utf8.acceptRanges", laid_unicode_utf8_acceptRanges), ("unicode/utf8.first", laid_unicode_utf8_first)] }
def FnCutsSaid : Prop := fnCutsRow.holds Tryd.pinned (OpenSpec.ofChange fnCutsSpec)

/-- ITS FALSE NEIGHBOUR: 'it returns false'. Refute it at one input. -/
def fnCutsWrong : ChangeSpec := { name := "fnCuts", fn := fun _ => fun
  | [d1, d2] => { results := [.lit (.bool false)], args := [d1, d2] }
  | _ => none }
def FnCutsWrongFalsely : Prop := fnCutsRow.holds Tryd.pinned (OpenSpec.ofChange fnCutsWrong)

/-- 'laws.FnFullIsFinal': WHATEVER THE INPUT: true; the input reads as it did. -/
def fnFullIsFinalSpec : ChangeSpec := { name := "fnFullIsFinal", fn := fun _ => fun
  | [d1, d2] => { results := [.lit (.bool true)], args := [d1, d2] }
  | _ => none }
def fnFullIsFinalRow : OpenClaim := { program := "ytdhofjhmbdeibaadoor", sum := "824d913acef059404a65b6a748aa2cabea014d19b4c7c86a553c735e63fea7ec", func := "loop.example/lib-g01185/laws.FnFullIsFinal", spec := "fnFullIsFinal", named := ["unicode/utf8.first", "unicode/utf8.acceptRanges"], apart := false, laid := [("unicode/utf8.acceptRanges", laid_unicode_utf8_acceptRanges), ("unicode/utf8.first", laid_unicode_utf8_first)] }
def FnFullIsFinalSaid : Prop := fnFullIsFinalRow.holds Tryd.pinned (OpenSpec.ofChange fnFullIsFinalSpec)

/-- ITS FALSE NEIGHBOUR: 'it returns false'. Refute it at one input. -/
def fnFullIsFinalWrong : ChangeSpec := { name := "fnFullIsFinal", fn := fun _ => fun
  | [d1, d2] => { results := [.lit (.bool false)], args := [d1, d2] }
  | _ => none }
def FnFullIsFinalWrongFalsely : Prop := fnFullIsFinalRow.holds Tryd.pinned (OpenSpec.ofChange fnFullIsFinalWrong)

/-- 'laws.FnStreamed': WHATEVER THE INPUT: true; the input reads as it did. -/
def fnStreamedSpec : ChangeSpec := { name := "fnStreamed", fn := fun _ => fun
  | [d1, d2] => { results := [.lit (.bool true)], args := [d1, d2] }
  | _ => none }
def fnStreamedRow : OpenClaim := { program := "ytdhofjhmbdeibaadoor", sum := "824d913acef059404a65b6a748aa2cabea014d19b4c7c86a553c735e63fea7ec", func := "loop.example/lib-g01185/laws.FnStreamed", spec := "fnStreamed", named := ["unicode/utf8.first", "unicode/utf8.acceptRanges"], apart := false, laid := [("unicode/utf8.acceptRanges", laid_unicode_utf8_acceptRanges), ("unicode/utf8.first", laid_unicode_utf8_first)] }
def FnStreamedSaid : Prop := fnStreamedRow.holds Tryd.pinned (OpenSpec.ofChange fnStreamedSpec)

/-- ITS FALSE NEIGHBOUR: 'it returns false'. Refute it at one input. -/
def fnStreamedWrong : ChangeSpec := { name := "fnStreamed", fn := fun _ => fun
  | [d1, d2] => { results := [.lit (.bool false)], args := [d1, d2] }
  | _ => none }
def FnStreamedWrongFalsely : Prop := fnStreamedRow.holds Tryd.pinned (OpenSpec.ofChange fnStreamedWrong)

/-- 'laws.FnExactDecodeLastRuneInString': WHATEVER THE INPUT: true; the input reads as it did. -/
def fnExactDecodeLastRuneInStringSpec : ChangeSpec := { name := "fnExactDecodeLastRuneInString", fn := fun _ => fun
  | [d] => { results := [.lit (.bool true)], args := [d] }
  | _ => none }
def fnExactDecodeLastRuneInStringRow : OpenClaim := { program := "ytdhofjhmbdeibaadoor", sum := "824d913acef059404a65b6a748aa2cabea014d19b4c7c86a553c735e63fea7ec", func := "loop.example/lib-g01185/laws.FnExactDecodeLastRuneInString", spec := "fnExactDecodeLastRuneInString", named := ["unicode/utf8.first", "unicode/utf8.acceptRanges"], apart := false, laid := [("unicode/utf8.acceptRanges", laid_unicode_utf8_acceptRanges), ("unicode/utf8.first", laid_unicode_utf8_first)] }
def FnExactDecodeLastRuneInStringSaid : Prop := fnExactDecodeLastRuneInStringRow.holds Tryd.pinned (OpenSpec.ofChange fnExactDecodeLastRuneInStringSpec)

/-- ITS FALSE NEIGHBOUR: 'it returns false'. Refute it at one input. -/
def fnExactDecodeLastRuneInStringWrong : ChangeSpec := { name := "fnExactDecodeLastRuneInString", fn := fun _ => fun
  | [d] => { results := [.lit (.bool false)], args := [d] }
  | _ => none }
def FnExactDecodeLastRuneInStringWrongFalsely : Prop := fnExactDecodeLastRuneInStringRow.holds Tryd.pinned (OpenSpec.ofChange fnExactDecodeLastRuneInStringWrong)

/-- 'laws.FnFound': WHATEVER THE INPUT: true; the input reads as it did. -/
def fnFoundSpec : ChangeSpec := { name := "fnFound", fn := fun _ => fun
  | [d1, d2, d3] => { results := [.lit (.bool true)], args := [d1, d2, d3] }
  | _ => none }
def fnFoundRow : OpenClaim := { program := "ytdhofjhmbdeibaadoor", sum := "824d913acef059404a65b6a748aa2cabea014d19b4c7c86a553c735e63fea7ec", func := "loop.example/lib-g01185/laws.FnFound", spec := "fnFound", named := ["unicode/utf8.first", "unicode/utf8.acceptRanges"], apart := false, laid := [("unicode/utf8.acceptRanges", laid_unicode_utf8_acceptRanges), ("unicode/utf8.first", laid_unicode_utf8_first)] }
def FnFoundSaid : Prop := fnFoundRow.holds Tryd.pinned (OpenSpec.ofChange fnFoundSpec)

/-- ITS FALSE NEIGHBOUR: 'it returns false'. Refute it at one input. -/
def fnFoundWrong : ChangeSpec := { name := "fnFound", fn := fun _ => fun
  | [d1, d2, d3] => { results := [.lit (.bool false)], args := [d1, d2, d3] }
  | _ => none }
def FnFoundWrongFalsely : Prop := fnFoundRow.holds Tryd.pinned (OpenSpec.ofChange fnFoundWrong)

/-- 'laws.FnSync': WHATEVER THE INPUT: true; the input reads as it did. -/
def fnSyncSpec : ChangeSpec := { name := "fnSync", fn := fun _ => fun
  | [d1, d2] => { results := [.lit (.bool true)], args := [d1, d2] }
  | _ => none }
def fnSyncRow : OpenClaim := { program := "ytdhofjhmbdeibaadoor", sum := "824d913acef059404a65b6a748aa2cabea014d19b4c7c86a553c735e63fea7ec", func := "loop.example/lib-g01185/laws.FnSync", spec := "fnSync", named := ["unicode/utf8.first", "unicode/utf8.acceptRanges"], apart := false, laid := [("unicode/utf8.acceptRanges", laid_unicode_utf8_acceptRanges), ("unicode/utf8.first", laid_unicode_utf8_first)] }
def FnSyncSaid : Prop := fnSyncRow.holds Tryd.pinned (OpenSpec.ofChange fnSyncSpec)

/-- ITS FALSE NEIGHBOUR: 'it returns false'. Refute it at one input. -/
def fnSyncWrong : ChangeSpec := { name := "fnSync", fn := fun _ => fun
  | [d1, d2] => { results := [.lit (.bool false)], args := [d1, d2] }
  | _ => none }
def FnSyncWrongFalsely : Prop := fnSyncRow.holds Tryd.pinned (OpenSpec.ofChange fnSyncWrong)

/-- 'laws.FnBackwards': WHATEVER THE INPUT: true; the input reads as it did. -/
def fnBackwardsSpec : ChangeSpec := { name := "fnBackwards", fn := fun _ => fun
  | [d] => { results := [.lit (.bool true)], args := [d] }
  | _ => none }
def fnBackwardsRow : OpenClaim := { program := "ytdhofjhmbdeibaadoor", sum := "824d913acef059404a65b6a748aa2cabea014d19b4c7c86a553c735e63fea7ec", func := "loop.example/lib-g01185/laws.FnBackwards", spec := "fnBackwards", named := ["unicode/utf8.first", "unicode/utf8.acceptRanges"], apart := false, laid := [("unicode/utf8.acceptRanges", laid_unicode_utf8_acceptRanges), ("unicode/utf8.first", laid_unicode_utf8_first)] }
def FnBackwardsSaid : Prop := fnBackwardsRow.holds Tryd.pinned (OpenSpec.ofChange fnBackwardsSpec)

/-- ITS FALSE NEIGHBOUR: 'it returns false'. Refute it at one input. -/
def fnBackwardsWrong : ChangeSpec := { name := "fnBackwards", fn := fun _ => fun
  | [d] => { results := [.lit (.bool false)], args := [d] }
  | _ => none }
def FnBackwardsWrongFalsely : Prop := fnBackwardsRow.holds Tryd.pinned (OpenSpec.ofChange fnBackwardsWrong)

/-- 'laws.FnExactDecodeLastRune': WHATEVER THE INPUT: true; the input reads as it did. -/
def fnExactDecodeLastRuneSpec : ChangeSpec := { name := "fnExactDecodeLastRune", fn := fun _ => fun
  | [d] => { results := [.lit (.bool true)], args := [d] }
  | _ => none }
def fnExactDecodeLastRuneRow : OpenClaim := { program := "ytdhofjhmbdeibaadoor", sum := "824d913acef059404a65b6a748aa2cabea014d19b4c7c86a553c735e63fea7ec", func := "loop.example/lib-g01185/laws.FnExactDecodeLastRune", spec := "fnExactDecodeLastRune", named := ["unicode/utf8.first", "unicode/utf8.acceptRanges"], apart := false, laid := [("unicode/utf8.acceptRanges", laid_unicode_utf8_acceptRanges), ("unicode/utf8.first", laid_unicode_utf8_first)] }
def FnExactDecodeLastRuneSaid : Prop := fnExactDecodeLastRuneRow.holds Tryd.pinned (OpenSpec.ofChange fnExactDecodeLastRuneSpec)

/-- ITS FALSE NEIGHBOUR: 'it returns false'. Refute it at one input. -/
def fnExactDecodeLastRuneWrong : ChangeSpec := { name := "fnExactDecodeLastRune", fn := fun _ => fun
  | [d] => { results := [.lit (.bool false)], args := [d] }
  | _ => none }
def FnExactDecodeLastRuneWrongFalsely : Prop := fnExactDecodeLastRuneRow.holds Tryd.pinned (OpenSpec.ofChange fnExactDecodeLastRuneWrong)

/-- 'laws.FnBothWays': WHATEVER THE INPUT: true; the input reads as it did. -/
def fnBothWaysSpec : ChangeSpec := { name := "fnBothWays", fn := fun _ => fun
  | [d] => { results := [.lit (.bool true)], args := [d] }
  | _ => none }
def fnBothWaysRow : OpenClaim := { program := "ytdhofjhmbdeibaadoor", sum := "824d913acef059404a65b6a748aa2cabea014d19b4c7c86a553c735e63fea7ec", func := "loop.example/lib-g01185/laws.FnBothWays", spec := "fnBothWays", named := ["unicode/utf8.first", "unicode/utf8.acceptRanges"], apart := false, laid := [("unicode/utf8.acceptRanges", laid_unicode_utf8_acceptRanges), ("unicode/utf8.first", laid_unicode_utf8_first)] }
def FnBothWaysSaid : Prop := fnBothWaysRow.holds Tryd.pinned (OpenSpec.ofChange fnBothWaysSpec)

/-- ITS FALSE NEIGHBOUR: 'it returns false'. Refute it at one input. -/
def fnBothWaysWrong : ChangeSpec := { name := "fnBothWays", fn := fun _ => fun
  | [d] => { results := [.lit (.bool false)], args := [d] }
  | _ => none }
def FnBothWaysWrongFalsely : Prop := fnBothWaysRow.holds Tryd.pinned (OpenSpec.ofChange fnBothWaysWrong)

/-- 'laws.FnFour': WHATEVER THE INPUT: true; the input reads as it did. -/
def fnFourSpec : ChangeSpec := { name := "fnFour", fn := fun _ => fun
  | [d] => { results := [.lit (.bool true)], args := [d] }
  | _ => none }
def fnFourRow : OpenClaim := { program := "ytdhofjhmbdeibaadoor", sum := "824d913acef059404a65b6a748aa2cabea014d19b4c7c86a553c735e63fea7ec", func := "loop.example/lib-g01185/laws.FnFour", spec := "fnFour", named := ["unicode/utf8.first", "unicode/utf8.acceptRanges"], apart := false, laid := [("unicode/utf8.acceptRanges", laid_unicode_utf8_acceptRanges), ("unicode/utf8.first", laid_unicode_utf8_first)] }
def FnFourSaid : Prop := fnFourRow.holds Tryd.pinned (OpenSpec.ofChange fnFourSpec)

/-- ITS FALSE NEIGHBOUR: 'it returns false'. Refute it at one input. -/
def fnFourWrong : ChangeSpec := { name := "fnFour", fn := fun _ => fun
  | [d] => { results := [.lit (.bool false)], args := [d] }
  | _ => none }
def FnFourWrongFalsely : Prop := fnFourRow.holds Tryd.pinned (OpenSpec.ofChange fnFourWrong)

/-- 'laws.FnFurther': WHATEVER THE INPUT: true; the input reads as it did. -/
def fnFurtherSpec : ChangeSpec := { name := "fnFurther", fn := fun _ => fun
  | [d1, d2] => { results := [.lit (.bool true)], args := [d1, d2] }
  | _ => none }
def fnFurtherRow : OpenClaim := { program := "ytdhofjhmbdeibaadoor", sum := "824d913acef059404a65b6a748aa2cabea014d19b4c7c86a553c735e63fea7ec", func := "loop.example/lib-g01185/laws.FnFurther", spec := "fnFurther", named := ["unicode/utf8.first", "unicode/utf8.acceptRanges"], apart := false, laid := [("unicode/utf8.acceptRanges", laid_unicode_utf8_acceptRanges), ("unicode/utf8.first", laid_unicode_utf8_first)] }
def FnFurtherSaid : Prop := fnFurtherRow.holds Tryd.pinned (OpenSpec.ofChange fnFurtherSpec)

/-- ITS FALSE NEIGHBOUR: 'it returns false'. Refute it at one input. -/
def fnFurtherWrong : ChangeSpec := { name := "fnFurther", fn := fun _ => fun
  | [d1, d2] => { results := [.lit (.bool false)], args := [d1, d2] }
  | _ => none }
def FnFurtherWrongFalsely : Prop := fnFurtherRow.holds Tryd.pinned (OpenSpec.ofChange fnFurtherWrong)

/- THE SECOND FORM. 'bulk': how many values and letters a reading holds, each counted each time it is reached (what is shared counts as often as it is met; a slice's spare places count too). A statement '..UptoSaid' is the law's where the arguments, and the package variables that the reading takes, are together of bulk at most 1048576: NARROWER than '..Said'. Prove '..Said' where nothing that the law and all that it calls make is longer than what came in: it says more and counts as full. Else prove '..UptoSaid'. A law counts once. -/
mutual
def uptoBulk {H : Type} : DataW H → Nat
  | .lit (.string bytes) => bytes.length + 1
  | .lit _ => 1
  | .nil => 1
  | .ptr d => uptoBulk d + 1
  | .slice elems spare => uptoBulkAll elems + uptoBulkAll spare + 1
  | .agg parts => uptoBulkAll parts + 1
  | .iface _ d => uptoBulk d + 1
  | .map entries => uptoBulkEntries entries + 1
  | .held _ => 1
def uptoBulkAll {H : Type} : List (DataW H) → Nat
  | [] => 0
  | d :: r => uptoBulk d + uptoBulkAll r
def uptoBulkEntries {H : Type} : List (Lit × DataW H) → Nat
  | [] => 0
  | x :: r => uptoBulkEntry x + uptoBulkEntries r
def uptoBulkEntry {H : Type} : Lit × DataW H → Nat
  | (.string bytes, d) => bytes.length + uptoBulk d + 1
  | (_, d) => uptoBulk d + 1
 end
def uptoSmall : (H : Type) → List (DataW H) → Bool := fun _ ds => decide (uptoBulkAll ds ≤ 1048576)
def OpenSpec.upto (s : _root_.Go.ChangeSpec) : _root_.Go.OpenSpec := { _root_.Go.OpenSpec.ofChange s with cond := some uptoSmall }

/-- 'laws.FnRangeDecode', WHERE WHAT IT READS IS OF BULK AT MOST 1048576: true; the input reads as it did. -/
def fnRangeDecodeUptoRow : OpenClaim := { program := "ytdhofjhmbdeibaadoor", sum := "824d913acef059404a65b6a748aa2cabea014d19b4c7c86a553c735e63fea7ec", func := "loop.example/lib-g01185/laws.FnRangeDecode", spec := "fnRangeDecode", named := ["unicode/utf8.first", "unicode/utf8.acceptRanges"], apart := false, laid := [("unicode/utf8.acceptRanges", laid_unicode_utf8_acceptRanges), ("unicode/utf8.first", laid_unicode_utf8_first)], narrowed := true }
def FnRangeDecodeUptoSaid : Prop := fnRangeDecodeUptoRow.holds Tryd.pinned (OpenSpec.upto fnRangeDecodeSpec)

/-- 'laws.FnCuts', WHERE WHAT IT READS IS OF BULK AT MOST 1048576: true; the input reads as it did. -/
def fnCutsUptoRow : OpenClaim := { program := "ytdhofjhmbdeibaadoor", sum := "824d913acef059404a65b6a748aa2cabea014d19b4c7c86a553c735e63fea7ec", func := "loop.example/lib-g01185/laws.FnCuts", spec := "fnCuts", named := ["unicode/utf8.first", "unicode/utf8.acceptRanges"], apart := false, laid := [("unicode/utf8.acceptRanges", laid_unicode_utf8_acceptRanges), ("unicode/utf8.first", laid_unicode_utf8_first)], narrowed := true }
def FnCutsUptoSaid : Prop := fnCutsUptoRow.holds Tryd.pinned (OpenSpec.upto fnCutsSpec)

/-- 'laws.FnFullIsFinal', WHERE WHAT IT READS IS OF BULK AT MOST 1048576: true; the input reads as it did. -/
def fnFullIsFinalUptoRow : OpenClaim := { program := "ytdhofjhmbdeibaadoor", sum := "824d913acef059404a65b6a748aa2cabea014d19b4c7c86a553c735e63fea7ec", func := "loop.example/lib-g01185/laws.FnFullIsFinal", spec := "fnFullIsFinal", named := ["unicode/utf8.first", "unicode/utf8.acceptRanges"], apart := false, laid := [("unicode/utf8.acceptRanges", laid_unicode_utf8_acceptRanges), ("unicode/utf8.first", laid_unicode_utf8_first)], narrowed := true }
def FnFullIsFinalUptoSaid : Prop := fnFullIsFinalUptoRow.holds Tryd.pinned (OpenSpec.upto fnFullIsFinalSpec)

/-- 'laws.FnStreamed', WHERE WHAT IT READS IS OF BULK AT MOST 1048576: true; the input reads as it did. -/
def fnStreamedUptoRow : OpenClaim := { program := "ytdhofjhmbdeibaadoor", sum := "824d913acef059404a65b6a748aa2cabea014d19b4c7c86a553c735e63fea7ec", func := "loop.example/lib-g01185/laws.FnStreamed", spec := "fnStreamed", named := ["unicode/utf8.first", "unicode/utf8.acceptRanges"], apart := false, laid := [("unicode/utf8.acceptRanges", laid_unicode_utf8_acceptRanges), ("unicode/utf8.first", laid_unicode_utf8_first)], narrowed := true }
def FnStreamedUptoSaid : Prop := fnStreamedUptoRow.holds Tryd.pinned (OpenSpec.upto fnStreamedSpec)

/-- 'laws.FnExactDecodeLastRuneInString', WHERE WHAT IT READS IS OF BULK AT MOST 1048576: true; the input reads as it did. -/
def fnExactDecodeLastRuneInStringUptoRow : OpenClaim := { program := "ytdhofjhmbdeibaadoor", sum := "824d913acef059404a65b6a748aa2cabea014d19b4c7c86a553c735e63fea7ec", func := "loop.example/lib-g01185/laws.FnExactDecodeLastRuneInString", spec := "fnExactDecodeLastRuneInString", named := ["unicode/utf8.first", "unicode/utf8.acceptRanges"], apart := false, laid := [("unicode/utf8.acceptRanges", laid_unicode_utf8_acceptRanges), ("unicode/utf8.first", laid_unicode_utf8_first)], narrowed := true }
def FnExactDecodeLastRuneInStringUptoSaid : Prop := fnExactDecodeLastRuneInStringUptoRow.holds Tryd.pinned (OpenSpec.upto fnExactDecodeLastRuneInStringSpec)

/-- 'laws.FnFound', WHERE WHAT IT READS IS OF BULK AT MOST 1048576: true; the input reads as it did. -/
def fnFoundUptoRow : OpenClaim := { program := "ytdhofjhmbdeibaadoor", sum := "824d913acef059404a65b6a748aa2cabea014d19b4c7c86a553c735e63fea7ec", func := "loop.example/lib-g01185/laws.FnFound", spec := "fnFound", named := ["unicode/utf8.first", "unicode/utf8.acceptRanges"], apart := false, laid := [("unicode/utf8.acceptRanges", laid_unicode_utf8_acceptRanges), ("unicode/utf8.first", laid_unicode_utf8_first)], narrowed := true }
def FnFoundUptoSaid : Prop := fnFoundUptoRow.holds Tryd.pinned (OpenSpec.upto fnFoundSpec)

/-- 'laws.FnSync', WHERE WHAT IT READS IS OF BULK AT MOST 1048576: true; the input reads as it did. -/
def fnSyncUptoRow : OpenClaim := { program := "ytdhofjhmbdeibaadoor", sum := "824d913acef059404a65b6a748aa2cabea014d19b4c7c86a553c735e63fea7ec", func := "loop.example/lib-g01185/laws.FnSync", spec := "fnSync", named := ["unicode/utf8.first", "unicode/utf8.acceptRanges"], apart := false, laid := [("unicode/utf8.acceptRanges", laid_unicode_utf8_acceptRanges), ("unicode/utf8.first", laid_unicode_utf8_first)], narrowed := true }
def FnSyncUptoSaid : Prop := fnSyncUptoRow.holds Tryd.pinned (OpenSpec.upto fnSyncSpec)

/-- 'laws.FnBackwards', WHERE WHAT IT READS IS OF BULK AT MOST 1048576: true; the input reads as it did. -/
def fnBackwardsUptoRow : OpenClaim := { program := "ytdhofjhmbdeibaadoor", sum := "824d913acef059404a65b6a748aa2cabea014d19b4c7c86a553c735e63fea7ec", func := "loop.example/lib-g01185/laws.FnBackwards", spec := "fnBackwards", named := ["unicode/utf8.first", "unicode/utf8.acceptRanges"], apart := false, laid := [("unicode/utf8.acceptRanges", laid_unicode_utf8_acceptRanges), ("unicode/utf8.first", laid_unicode_utf8_first)], narrowed := true }
def FnBackwardsUptoSaid : Prop := fnBackwardsUptoRow.holds Tryd.pinned (OpenSpec.upto fnBackwardsSpec)

/-- 'laws.FnExactDecodeLastRune', WHERE WHAT IT READS IS OF BULK AT MOST 1048576: true; the input reads as it did. -/
def fnExactDecodeLastRuneUptoRow : OpenClaim := { program := "ytdhofjhmbdeibaadoor", sum := "824d913acef059404a65b6a748aa2cabea014d19b4c7c86a553c735e63fea7ec", func := "loop.example/lib-g01185/laws.FnExactDecodeLastRune", spec := "fnExactDecodeLastRune", named := ["unicode/utf8.first", "unicode/utf8.acceptRanges"], apart := false, laid := [("unicode/utf8.acceptRanges", laid_unicode_utf8_acceptRanges), ("unicode/utf8.first", laid_unicode_utf8_first)], narrowed := true }
def FnExactDecodeLastRuneUptoSaid : Prop := fnExactDecodeLastRuneUptoRow.holds Tryd.pinned (OpenSpec.upto fnExactDecodeLastRuneSpec)

/-- 'laws.FnBothWays', WHERE WHAT IT READS IS OF BULK AT MOST 1048576: true; the input reads as it did. -/
def fnBothWaysUptoRow : OpenClaim := { program := "ytdhofjhmbdeibaadoor", sum := "824d913acef059404a65b6a748aa2cabea014d19b4c7c86a553c735e63fea7ec", func := "loop.example/lib-g01185/laws.FnBothWays", spec := "fnBothWays", named := ["unicode/utf8.first", "unicode/utf8.acceptRanges"], apart := false, laid := [("unicode/utf8.acceptRanges", laid_unicode_utf8_acceptRanges), ("unicode/utf8.first", laid_unicode_utf8_first)], narrowed := true }
def FnBothWaysUptoSaid : Prop := fnBothWaysUptoRow.holds Tryd.pinned (OpenSpec.upto fnBothWaysSpec)

/-- 'laws.FnFour', WHERE WHAT IT READS IS OF BULK AT MOST 1048576: true; the input reads as it did. -/
def fnFourUptoRow : OpenClaim := { program := "ytdhofjhmbdeibaadoor", sum := "824d913acef059404a65b6a748aa2cabea014d19b4c7c86a553c735e63fea7ec", func := "loop.example/lib-g01185/laws.FnFour", spec := "fnFour", named := ["unicode/utf8.first", "unicode/utf8.acceptRanges"], apart := false, laid := [("unicode/utf8.acceptRanges", laid_unicode_utf8_acceptRanges), ("unicode/utf8.first", laid_unicode_utf8_first)], narrowed := true }
def FnFourUptoSaid : Prop := fnFourUptoRow.holds Tryd.pinned (OpenSpec.upto fnFourSpec)

/-- 'laws.FnFurther', WHERE WHAT IT READS IS OF BULK AT MOST 1048576: true; the input reads as it did. -/
def fnFurtherUptoRow : OpenClaim := { program := "ytdhofjhmbdeibaadoor", sum := "824d913acef059404a65b6a748aa2cabea014d19b4c7c86a553c735e63fea7ec", func := "loop.example/lib-g01185/laws.FnFurther", spec := "fnFurther", named := ["unicode/utf8.first", "unicode/utf8.acceptRanges"], apart := false, laid := [("unicode/utf8.acceptRanges", laid_unicode_utf8_acceptRanges), ("unicode/utf8.first", laid_unicode_utf8_first)], narrowed := true }
def FnFurtherUptoSaid : Prop := fnFurtherUptoRow.holds Tryd.pinned (OpenSpec.upto fnFurtherSpec)

end Rows
end Go.Proofs.YtdhofjhmbdeibaaDoor
