/-
  NARROWER THAN 'FOR EVERY INPUT', by the rows' own cells (each row's printed sentence says how): FnToValidRunes: laid · FnOverlong: laid · FnAllBytes: laid · FnErrorRune: laid · FnBeyond: laid · FnSuffixes: laid · FnToValidGood: laid · FnToValidRuns: laid · FnPrefixes: laid · FnHalves: laid · FnToValidTells: laid · FnLast: laid.
  DERIVED. THE GIVEN ROWS OF THIS SEAT. 12 by the template 'for every input the law returns true; each argument reads behind the call as it read before'; 0 by the template 'total and deterministic' (their statements: YtpijokiagkhdeaaDoorTotals.lean).
  GIVEN WITH THE SEED: the statements are not yours to turn. If you find one false, say at which input.
  Laid BY PROGRAM, IN A SANDBOX (cutbox-rows.mjs): the forced cells as the released guide's own fill.sh prints them over the translation 5b17e344db2a5f5f… (all of the seat's roots in one cut). By AI agents, Wed Nov 11 2026. No macro, syntax, notation, axiom, sorry.
-/
import Derived.Test.YtpijokiagkhdeaaDoorChecked
import GoSem.PinnedTables
import GoSem.Claim
import GoSem.ClaimJoined
import GoSem.ClaimMapViews
import Derived.JoinedTies
import Derived.KernelRfl
namespace Go.Proofs.YtpijokiagkhdeaaDoor
/- THE CELL 'sum', in the pinned program and in every row, IS THE sha256 OF THE DUMP (.gsa) THAT YtpijokiagkhdeaaDoorProg.lean LOADS. Nothing in Lean hashes anything: it is a label: what it is worth is what the hold of that sum in a sandbox is worth. -/
noncomputable def Tryd.pinned : Pinned := { name := "ytpijokiagkhdeaadoor", sum := "5b17e344db2a5f5fbe9dc871b95e6e5707decb0e3c8b06520518d4453bd3b145", checked := Tryd.checked }
namespace Rows
def none {H : Type} : Left H := { results := [], args := [] }

/- WHAT THE LISTED PACKAGE-LEVEL VARIABLES READ AS WHEN THE CALL BEGINS. Each datum BY PROGRAM (the guide's laid-datum.mjs) off the statement by which the dump's own 'gosem.cut.vars' lays the variable. In a bare row this is a premise. The card (YtpijokiagkhdeaaDoorCards.lean) ties it to the program's text. -/
def laid_unicode_utf8_acceptRanges {H : Type} : DataW H := .agg [.agg [.lit (.int .u8 128), .lit (.int .u8 191)], .agg [.lit (.int .u8 160), .lit (.int .u8 191)], .agg [.lit (.int .u8 128), .lit (.int .u8 159)], .agg [.lit (.int .u8 144), .lit (.int .u8 191)], .agg [.lit (.int .u8 128), .lit (.int .u8 143)], .agg [.lit (.int .u8 0), .lit (.int .u8 0)], .agg [.lit (.int .u8 0), .lit (.int .u8 0)], .agg [.lit (.int .u8 0), .lit (.int .u8 0)], .agg [.lit (.int .u8 0), .lit (.int .u8 0)], .agg [.lit (.int .u8 0), .lit (.int .u8 0)], .agg [.lit (.int .u8 0), .lit (.int .u8 0)], .agg [.lit (.int .u8 0), .lit (.int .u8 0)], .agg [.lit (.int .u8 0), .lit (.int .u8 0)], .agg [.lit (.int .u8 0), .lit (.int .u8 0)], .agg [.lit (.int .u8 0), .lit (.int .u8 0)], .agg [.lit (.int .u8 0), .lit (.int .u8 0)]]
/-- One of Go's own tables, pinned by name: the form's constant. -/
def laid_unicode_utf8_first : DataW Unit := Go.Pinned.utf8First

/-- 'laws.FnToValidRunes': WHATEVER THE INPUT: true; the input reads as it did. -/
def fnToValidRunesSpec : ChangeSpec := { name := "fnToValidRunes", fn := fun _ => fun
  | [d] => { results := [.lit (.bool true)], args := [d] }
  | _ => none }
def fnToValidRunesRow : OpenClaim := { program := "ytpijokiagkhdeaadoor", sum := "5b17e344db2a5f5fbe9dc871b95e6e5707decb0e3c8b06520518d4453bd3b145", func := "loop.example/lib-g01185/laws.FnToValidRunes", spec := "fnToValidRunes", inPlace := ["internal/abi.NoEscape", "internal/bytealg.MakeNoZero"], named := ["unicode/utf8.first", "unicode/utf8.acceptRanges"], apart := false, laid := [("unicode/utf8.acceptRanges", laid_unicode_utf8_acceptRanges), ("unicode/utf8.first", laid_unicode_utf8_first)] }
def FnToValidRunesSaid : Prop := fnToValidRunesRow.holds Tryd.pinned (OpenSpec.ofChange fnToValidRunesSpec)

/-- ITS FALSE NEIGHBOUR: 'it returns false'. Refute it at one input. -/
def fnToValidRunesWrong : ChangeSpec := { name := "fnToValidRunes", fn := fun _ => fun
  | [d] => { results := [.lit (.bool false)], args := [d] }
  | _ => none }
def FnToValidRunesWrongFalsely : Prop := fnToValidRunesRow.holds Tryd.pinned (OpenSpec.ofChange fnToValidRunesWrong)

/-- 'laws.FnOverlong': WHATEVER THE INPUT: true; the input reads as it did. -/
def fnOverlongSpec : ChangeSpec := { name := "fnOverlong", fn := fun _ => fun
  | [d1, d2] => { results := [.lit (.bool true)], args := [d1, d2] }
  | _ => none }
def fnOverlongRow : OpenClaim := { program := "ytpijokiagkhdeaadoor", sum := "5b17e344db2a5f5fbe9dc871b95e6e5707decb0e3c8b06520518d4453bd3b145", func := "loop.example/lib-g01185/laws.FnOverlong", spec := "fnOverlong", named := ["unicode/utf8.first", "unicode/utf8.acceptRanges"], apart := false, laid := [("unicode/utf8.acceptRanges", laid_unicode_utf8_acceptRanges), ("unicode/utf8.first", laid_unicode_utf8_first)] }
def FnOverlongSaid : Prop := fnOverlongRow.holds Tryd.pinned (OpenSpec.ofChange fnOverlongSpec)

/-- ITS FALSE NEIGHBOUR: 'it returns false'. Refute it at one input. -/
def fnOverlongWrong : ChangeSpec := { name := "fnOverlong", fn := fun _ => fun
  | [d1, d2] => { results := [.lit (.bool false)], args := [d1, d2] }
  | _ => none }
def FnOverlongWrongFalsely : Prop := fnOverlongRow.holds Tryd.pinned (OpenSpec.ofChange fnOverlongWrong)

/-- 'laws.FnAllBytes': WHATEVER THE INPUT: true; the input reads as it did. -/
def fnAllBytesSpec : ChangeSpec := { name := "fnAllBytes", fn := fun _ => fun
  | [d1, d2] => { results := [.lit (.bool true)], args := [d1, d2] }
  | _ => none }
def fnAllBytesRow : OpenClaim := { program := "ytpijokiagkhdeaadoor", sum := "5b17e344db2a5f5fbe9dc871b95e6e5707decb0e3c8b06520518d4453bd3b145", func := "loop.example/lib-g01185/laws.FnAllBytes", spec := "fnAllBytes", named := ["unicode/utf8.first", "unicode/utf8.acceptRanges"], apart := false, laid := [("unicode/utf8.acceptRanges", laid_unicode_utf8_acceptRanges), ("unicode/utf8.first", laid_unicode_utf8_first)] }
def FnAllBytesSaid : Prop := fnAllBytesRow.holds Tryd.pinned (OpenSpec.ofChange fnAllBytesSpec)

/-- ITS FALSE NEIGHBOUR: 'it returns false'. Refute it at one input. -/
def fnAllBytesWrong : ChangeSpec := { name := "fnAllBytes", fn := fun _ => fun
  | [d1, d2] => { results := [.lit (.bool false)], args := [d1, d2] }
  | _ => none }
def FnAllBytesWrongFalsely : Prop := fnAllBytesRow.holds Tryd.pinned (OpenSpec.ofChange fnAllBytesWrong)

/-- 'laws.FnErrorRune': WHATEVER THE INPUT: true; the input reads as it did. -/
def fnErrorRuneSpec : ChangeSpec := { name := "fnErrorRune", fn := fun _ => fun
  | [d1, d2] => { results := [.lit (.bool true)], args := [d1, d2] }
  | _ => none }
def fnErrorRuneRow : OpenClaim := { program := "ytpijokiagkhdeaadoor", sum := "5b17e344db2a5f5fbe9dc871b95e6e5707decb0e3c8b06520518d4453bd3b145", func := "loop.example/lib-g01185/laws.FnErrorRune", spec := "fnErrorRune", named := ["unicode/utf8.first", "unicode/utf8.acceptRanges"], apart := false, laid := [("unicode/utf8.acceptRanges", laid_unicode_utf8_acceptRanges), ("unicode/utf8.first", laid_unicode_utf8_first)] }
def FnErrorRuneSaid : Prop := fnErrorRuneRow.holds Tryd.pinned (OpenSpec.ofChange fnErrorRuneSpec)

/-- ITS FALSE NEIGHBOUR: 'it returns false'. Refute it at one input. -/
def fnErrorRuneWrong : ChangeSpec := { name := "fnErrorRune", fn := fun _ => fun
  | [d1, d2] => { results := [.lit (.bool false)], args := [d1, d2] }
  | _ => none }
def FnErrorRuneWrongFalsely : Prop := fnErrorRuneRow.holds Tryd.pinned (OpenSpec.ofChange fnErrorRuneWrong)

/-- 'laws.FnBeyond': WHATEVER THE INPUT: true; the input reads as it did. -/
def fnBeyondSpec : ChangeSpec := { name := "fnBeyond", fn := fun _ => fun
  | [d1, d2] => { results := [.lit (.bool true)], args := [d1, d2] }
  | _ => none }
def fnBeyondRow : OpenClaim := { program := "ytpijokiagkhdeaadoor", sum := "5b17e344db2a5f5fbe9dc871b95e6e5707decb0e3c8b06520518d4453bd3b145", func := "loop.example/lib-g01185/laws.FnBeyond", spec := "fnBeyond", named := ["unicode/utf8.first", "unicode/utf8.acceptRanges"], apart := false, laid := [("unicode/utf8.acceptRanges", laid_unicode_utf8_acceptRanges), ("unicode/utf8.first", laid_unicode_utf8_first)] }
def FnBeyondSaid : Prop := fnBeyondRow.holds Tryd.pinned (OpenSpec.ofChange fnBeyondSpec)

/-- ITS FALSE NEIGHBOUR: 'it returns false'. Refute it at one input. -/
def fnBeyondWrong : ChangeSpec := { name := "fnBeyond", fn := fun _ => fun
  | [d1, d2] => { results := [.lit (.bool false)], args := [d1, d2] }
  | _ => none }
def FnBeyondWrongFalsely : Prop := fnBeyondRow.holds Tryd.pinned (OpenSpec.ofChange fnBeyondWrong)

/-- 'laws.FnSuffixes': WHATEVER THE INPUT: true; the input reads as it did. -/
def fnSuffixesSpec : ChangeSpec := { name := "fnSuffixes", fn := fun _ => fun
  | [d] => { results := [.lit (.bool true)], args := [d] }
  | _ => none }
def fnSuffixesRow : OpenClaim := { program := "ytpijokiagkhdeaadoor", sum := "5b17e344db2a5f5fbe9dc871b95e6e5707decb0e3c8b06520518d4453bd3b145", func := "loop.example/lib-g01185/laws.FnSuffixes", spec := "fnSuffixes", named := ["unicode/utf8.first", "unicode/utf8.acceptRanges"], apart := false, laid := [("unicode/utf8.acceptRanges", laid_unicode_utf8_acceptRanges), ("unicode/utf8.first", laid_unicode_utf8_first)] }
def FnSuffixesSaid : Prop := fnSuffixesRow.holds Tryd.pinned (OpenSpec.ofChange fnSuffixesSpec)

/-- ITS FALSE NEIGHBOUR: 'it returns false'. Refute it at one input. -/
def fnSuffixesWrong : ChangeSpec := { name := "fnSuffixes", fn := fun _ => fun
  | [d] => { results := [.lit (.bool false)], args := [d] }
  | _ => none }
def FnSuffixesWrongFalsely : Prop := fnSuffixesRow.holds Tryd.pinned (OpenSpec.ofChange fnSuffixesWrong)

/-- 'laws.FnToValidGood': WHATEVER THE INPUT: true; the input reads as it did. -/
def fnToValidGoodSpec : ChangeSpec := { name := "fnToValidGood", fn := fun _ => fun
  | [d1, d2] => { results := [.lit (.bool true)], args := [d1, d2] }
  | _ => none }
def fnToValidGoodRow : OpenClaim := { program := "ytpijokiagkhdeaadoor", sum := "5b17e344db2a5f5fbe9dc871b95e6e5707decb0e3c8b06520518d4453bd3b145", func := "loop.example/lib-g01185/laws.FnToValidGood", spec := "fnToValidGood", inPlace := ["internal/abi.NoEscape", "internal/bytealg.MakeNoZero"], named := ["unicode/utf8.first", "unicode/utf8.acceptRanges"], apart := false, laid := [("unicode/utf8.acceptRanges", laid_unicode_utf8_acceptRanges), ("unicode/utf8.first", laid_unicode_utf8_first)] }
def FnToValidGoodSaid : Prop := fnToValidGoodRow.holds Tryd.pinned (OpenSpec.ofChange fnToValidGoodSpec)

/-- ITS FALSE NEIGHBOUR: 'it returns false'. Refute it at one input. -/
def fnToValidGoodWrong : ChangeSpec := { name := "fnToValidGood", fn := fun _ => fun
  | [d1, d2] => { results := [.lit (.bool false)], args := [d1, d2] }
  | _ => none }
def FnToValidGoodWrongFalsely : Prop := fnToValidGoodRow.holds Tryd.pinned (OpenSpec.ofChange fnToValidGoodWrong)

/-- 'laws.FnToValidRuns': WHATEVER THE INPUT: true; the input reads as it did. -/
def fnToValidRunsSpec : ChangeSpec := { name := "fnToValidRuns", fn := fun _ => fun
  | [d1, d2] => { results := [.lit (.bool true)], args := [d1, d2] }
  | _ => none }
def fnToValidRunsRow : OpenClaim := { program := "ytpijokiagkhdeaadoor", sum := "5b17e344db2a5f5fbe9dc871b95e6e5707decb0e3c8b06520518d4453bd3b145", func := "loop.example/lib-g01185/laws.FnToValidRuns", spec := "fnToValidRuns", inPlace := ["internal/abi.NoEscape", "internal/bytealg.MakeNoZero"], named := ["unicode/utf8.first", "unicode/utf8.acceptRanges"], apart := false, laid := [("unicode/utf8.acceptRanges", laid_unicode_utf8_acceptRanges), ("unicode/utf8.first", laid_unicode_utf8_first)] }
def FnToValidRunsSaid : Prop := fnToValidRunsRow.holds Tryd.pinned (OpenSpec.ofChange fnToValidRunsSpec)

/-- ITS FALSE NEIGHBOUR: 'it returns false'. Refute it at one input. -/
def fnToValidRunsWrong : ChangeSpec := { name := "fnToValidRuns", fn := fun _ => fun
  | [d1, d2] => { results := [.lit (.bool false)], args := [d1, d2] }
  | _ => none }
def FnToValidRunsWrongFalsely : Prop := fnToValidRunsRow.holds Tryd.pinned (OpenSpec.ofChange fnToValidRunsWrong)

/-- 'laws.FnPrefixes': WHATEVER THE INPUT: true; the input reads as it did. -/
def fnPrefixesSpec : ChangeSpec := { name := "fnPrefixes", fn := fun _ => fun
  | [d] => { results := [.lit (.bool true)], args := [d] }
  | _ => none }
def fnPrefixesRow : OpenClaim := { program := "ytpijokiagkhdeaadoor", sum := "5b17e344db2a5f5fbe9dc871b95e6e5707decb0e3c8b06520518d4453bd3b145", func := "loop.example/lib-g01185/laws.FnPrefixes", spec := "fnPrefixes", named := ["unicode/utf8.first", "unicode/utf8.acceptRanges"], apart := false, laid := [("unicode/utf8.acceptRanges", laid_unicode_utf8_acceptRanges), ("unicode/utf8.first", laid_unicode_utf8_first)] }
def FnPrefixesSaid : Prop := fnPrefixesRow.holds Tryd.pinned (OpenSpec.ofChange fnPrefixesSpec)

/-- ITS FALSE NEIGHBOUR: 'it returns false'. Refute it at one input. -/
def fnPrefixesWrong : ChangeSpec := { name := "fnPrefixes", fn := fun _ => fun
  | [d] => { results := [.lit (.bool false)], args := [d] }
  | _ => none }
def FnPrefixesWrongFalsely : Prop := fnPrefixesRow.holds Tryd.pinned (OpenSpec.ofChange fnPrefixesWrong)

/-- 'laws.FnHalves': WHATEVER THE INPUT: true; the input reads as it did. -/
def fnHalvesSpec : ChangeSpec := { name := "fnHalves", fn := fun _ => fun
  | [d1, d2] => { results := [.lit (.bool true)], args := [d1, d2] }
  | _ => none }
def fnHalvesRow : OpenClaim := { program := "ytpijokiagkhdeaadoor", sum := "5b17e344db2a5f5fbe9dc871b95e6e5707decb0e3c8b06520518d4453bd3b145", func := "loop.example/lib-g01185/laws.FnHalves", spec := "fnHalves", named := ["unicode/utf8.first", "unicode/utf8.acceptRanges"], apart := false, laid := [("unicode/utf8.acceptRanges", laid_unicode_utf8_acceptRanges), ("unicode/utf8.first", laid_unicode_utf8_first)] }
def FnHalvesSaid : Prop := fnHalvesRow.holds Tryd.pinned (OpenSpec.ofChange fnHalvesSpec)

/-- ITS FALSE NEIGHBOUR: 'it returns false'. Refute it at one input. -/
def fnHalvesWrong : ChangeSpec := { name := "fnHalves", fn := fun _ => fun
  | [d1, d2] => { results := [.lit (.bool false)], args := [d1, d2] }
  | _ => none }
def FnHalvesWrongFalsely : Prop := fnHalvesRow.holds Tryd.pinned (OpenSpec.ofChange fnHalvesWrong)

/-- 'laws.FnToValidTells': WHATEVER THE INPUT: true; the input reads as it did. -/
def fnToValidTellsSpec : ChangeSpec := { name := "fnToValidTells", fn := fun _ => fun
  | [d] => { results := [.lit (.bool true)], args := [d] }
  | _ => none }
def fnToValidTellsRow : OpenClaim := { program := "ytpijokiagkhdeaadoor", sum := "5b17e344db2a5f5fbe9dc871b95e6e5707decb0e3c8b06520518d4453bd3b145", func := "loop.example/lib-g01185/laws.FnToValidTells", spec := "fnToValidTells", inPlace := ["internal/abi.NoEscape", "internal/bytealg.MakeNoZero"], named := ["unicode/utf8.first", "unicode/utf8.acceptRanges"], apart := false, laid := [("unicode/utf8.acceptRanges", laid_unicode_utf8_acceptRanges), ("unicode/utf8.first", laid_unicode_utf8_first)] }
def FnToValidTellsSaid : Prop := fnToValidTellsRow.holds Tryd.pinned (OpenSpec.ofChange fnToValidTellsSpec)

/-- ITS FALSE NEIGHBOUR: 'it returns false'. Refute it at one input. -/
def fnToValidTellsWrong : ChangeSpec := { name := "fnToValidTells", fn := fun _ => fun
  | [d] => { results := [.lit (.bool false)], args := [d] }
  | _ => none }
def FnToValidTellsWrongFalsely : Prop := fnToValidTellsRow.holds Tryd.pinned (OpenSpec.ofChange fnToValidTellsWrong)

/-- 'laws.FnLast': WHATEVER THE INPUT: true; the input reads as it did. -/
def fnLastSpec : ChangeSpec := { name := "fnLast", fn := fun _ => fun
  | [d1, d2] => { results := [.lit (.bool true)], args := [d1, d2] }
  | _ => none }
def fnLastRow : OpenClaim := { program := "ytpijokiagkhdeaadoor", sum := "5b17e344db2a5f5fbe9dc871b95e6e5707decb0e3c8b06520518d4453bd3b145", func := "loop.example/lib-g01185/laws.FnLast", spec := "fnLast", named := ["unicode/utf8.first", "unicode/utf8.acceptRanges"], apart := false, laid := [("unicode/utf8.acceptRanges", laid_unicode_utf8_acceptRanges), ("unicode/utf8.first", laid_unicode_utf8_first)] }
def FnLastSaid : Prop := fnLastRow.holds Tryd.pinned (OpenSpec.ofChange fnLastSpec)

/-- ITS FALSE NEIGHBOUR: 'it returns false'. Refute it at one input. -/
def fnLastWrong : ChangeSpec := { name := "fnLast", fn := fun _ => fun
  | [d1, d2] => { results := [.lit (.bool false)], args := [d1, d2] }
  | _ => none }
def FnLastWrongFalsely : Prop := fnLastRow.holds Tryd.pinned (OpenSpec.ofChange fnLastWrong)

/- THE SECOND FORM. 'bulk': how many values and letters a reading holds, each counted each time it is reached (what is shared counts as often as it is met; a slice's spare places count too). A statement '..UptoSaid' is the law's where the arguments, and the package variables that the reading takes, are together of bulk at most 1048576: NARROWER than '..Said'. Prove '..Said' where nothing that the law and all that it calls make is longer than what came in: it says more and counts as full. Else prove '..UptoSaid'. A law counts once. -/
mutual
def uptoBulk {H : Type} : DataW H → Nat
  | .lit (.string bytes) => bytes.length + 1
  | .lit _ => 1
  | .nil => 1
  | .ptr d => uptoBulk d + 1
  | .slice elems spare => uptoBulkAll elems + uptoBulkAll spare + 1
  | .agg parts => uptoBulkAll parts + 1
  | .iface _ d => uptoBulk d + 1
  | .map entries => uptoBulkEntries entries + 1
  | .held _ => 1
def uptoBulkAll {H : Type} : List (DataW H) → Nat
  | [] => 0
  | d :: r => uptoBulk d + uptoBulkAll r
def uptoBulkEntries {H : Type} : List (Lit × DataW H) → Nat
  | [] => 0
  | x :: r => uptoBulkEntry x + uptoBulkEntries r
def uptoBulkEntry {H : Type} : Lit × DataW H → Nat
  | (.string bytes, d) => bytes.length + uptoBulk d + 1
  | (_, d) => uptoBulk d + 1
 end
def uptoSmall : (H : Type) → List (DataW H) → Bool := fun _ ds => decide (uptoBulkAll ds ≤ 1048576)
def OpenSpec.upto (s : _root_.Go.ChangeSpec) : _root_.Go.OpenSpec := { _root_.Go.OpenSpec.ofChange s with cond := some uptoSmall }

/-- 'laws.FnToValidRunes', WHERE WHAT IT READS IS OF BULK AT MOST 1048576: true; the input reads as it did. -/
def fnToValidRunesUptoRow : OpenClaim := { program := "ytpijokiagkhdeaadoor", sum := "5b17e344db2a5f5fbe9dc871b95e6e5707decb0e3c8b06520518d4453bd3b145", func := "loop.example/lib-g01185/laws.FnToValidRunes", spec := "fnToValidRunes", inPlace := ["internal/abi.NoEscape", "internal/bytealg.MakeNoZero"], named := ["unicode/utf8.first", "unicode/utf8.acceptRanges"], apart := false, laid := [("unicode/utf8.acceptRanges", laid_unicode_utf8_acceptRanges), ("unicode/utf8.first", laid_unicode_utf8_first)], narrowed := true }
def FnToValidRunesUptoSaid : Prop := fnToValidRunesUptoRow.holds Tryd.pinned (OpenSpec.upto fnToValidRunesSpec)

/-- 'laws.FnOverlong', WHERE WHAT IT READS IS OF BULK AT MOST 1048576: true; the input reads as it did. -/
def fnOverlongUptoRow : OpenClaim := { program := "ytpijokiagkhdeaadoor", sum := "5b17e344db2a5f5fbe9dc871b95e6e5707decb0e3c8b06520518d4453bd3b145", func := "loop.example/lib-g01185/laws.FnOverlong", spec := "fnOverlong", named := ["unicode/utf8.first", "unicode/utf8.acceptRanges"], apart := false, laid := [("unicode/utf8.acceptRanges", laid_unicode_utf8_acceptRanges), ("unicode/utf8.first", laid_unicode_utf8_first)], narrowed := true }
def FnOverlongUptoSaid : Prop := fnOverlongUptoRow.holds Tryd.pinned (OpenSpec.upto fnOverlongSpec)

/-- 'laws.FnAllBytes', WHERE WHAT IT READS IS OF BULK AT MOST 1048576: true; the input reads as it did. -/
def fnAllBytesUptoRow : OpenClaim := { program := "ytpijokiagkhdeaadoor", sum := "5b17e344db2a5f5fbe9dc871b95e6e5707decb0e3c8b06520518d4453bd3b145", func := "loop.example/lib-g01185/laws.FnAllBytes", spec := "fnAllBytes", named := ["unicode/utf8.first", "unicode/utf8.acceptRanges"], apart := false, laid := [("unicode/utf8.acceptRanges", laid_unicode_utf8_acceptRanges), ("unicode/utf8.first", laid_unicode_utf8_first)], narrowed := true }
def FnAllBytesUptoSaid : Prop := fnAllBytesUptoRow.holds Tryd.pinned (OpenSpec.upto fnAllBytesSpec)

/-- 'laws.FnErrorRune', WHERE WHAT IT READS IS OF BULK AT MOST 1048576: true; the input reads as it did. -/
def fnErrorRuneUptoRow : OpenClaim := { program := "ytpijokiagkhdeaadoor", sum := "5b17e344db2a5f5fbe9dc871b95e6e5707decb0e3c8b06520518d4453bd3b145", func := "loop.example/lib-g01185/laws.FnErrorRune", spec := "fnErrorRune", named := ["unicode/utf8.first", "unicode/utf8.acceptRanges"], apart := false, laid := [("unicode/utf8.acceptRanges", laid_unicode_utf8_acceptRanges), ("unicode/utf8.first", laid_unicode_utf8_first)], narrowed := true }
def FnErrorRuneUptoSaid : Prop := fnErrorRuneUptoRow.holds Tryd.pinned (OpenSpec.upto fnErrorRuneSpec)

/-- 'laws.FnBeyond', WHERE WHAT IT READS IS OF BULK AT MOST 1048576: true; the input reads as it did. -/
def fnBeyondUptoRow : OpenClaim := { program := "ytpijokiagkhdeaadoor", sum := "5b17e344db2a5f5fbe9dc871b95e6e5707decb0e3c8b06520518d4453bd3b145", func := "loop.example/lib-g01185/laws.FnBeyond", spec := "fnBeyond", named := ["unicode/utf8.first", "unicode/utf8.acceptRanges"], apart := false, laid := [("unicode/utf8.acceptRanges", laid_unicode_utf8_acceptRanges), ("unicode/utf8.first", laid_unicode_utf8_first)], narrowed := true }
def FnBeyondUptoSaid : Prop := fnBeyondUptoRow.holds Tryd.pinned (OpenSpec.upto fnBeyondSpec)

/-- 'laws.FnSuffixes', WHERE WHAT IT READS IS OF BULK AT MOST 1048576: true; the input reads as it did. -/
def fnSuffixesUptoRow : OpenClaim := { program := "ytpijokiagkhdeaadoor", sum := "5b17e344db2a5f5fbe9dc871b95e6e5707decb0e3c8b06520518d4453bd3b145", func := "loop.example/lib-g01185/laws.FnSuffixes", spec := "fnSuffixes", named := ["unicode/utf8.first", "unicode/utf8.acceptRanges"], apart := false, laid := [("unicode/utf8.acceptRanges", laid_unicode_utf8_acceptRanges), ("unicode/utf8.first", laid_unicode_utf8_first)], narrowed := true }
def FnSuffixesUptoSaid : Prop := fnSuffixesUptoRow.holds Tryd.pinned (OpenSpec.upto fnSuffixesSpec)

/-- 'laws.FnToValidGood', WHERE WHAT IT READS IS OF BULK AT MOST 1048576: true; the input reads as it did. -/
def fnToValidGoodUptoRow : OpenClaim := { program := "ytpijokiagkhdeaadoor", sum := "5b17e344db2a5f5fbe9dc871b95e6e5707decb0e3c8b06520518d4453bd3b145", func := "loop.example/lib-g01185/laws.FnToValidGood", spec := "fnToValidGood", inPlace := ["internal/abi.NoEscape", "internal/bytealg.MakeNoZero"], named := ["unicode/utf8.first", "unicode/utf8.acceptRanges"], apart := false, laid := [("unicode/utf8.acceptRanges", laid_unicode_utf8_acceptRanges), ("unicode/utf8.first", laid_unicode_utf8_first)], narrowed := true }
def FnToValidGoodUptoSaid : Prop := fnToValidGoodUptoRow.holds Tryd.pinned (OpenSpec.upto fnToValidGoodSpec)

/-- 'laws.FnToValidRuns', WHERE WHAT IT READS IS OF BULK AT MOST 1048576: true; the input reads as it did. -/
def fnToValidRunsUptoRow : OpenClaim := { program := "ytpijokiagkhdeaadoor", sum := "5b17e344db2a5f5fbe9dc871b95e6e5707decb0e3c8b06520518d4453bd3b145", func := "loop.example/lib-g01185/laws.FnToValidRuns", spec := "fnToValidRuns", inPlace := ["internal/abi.NoEscape", "internal/bytealg.MakeNoZero"], named := ["unicode/utf8.first", "unicode/utf8.acceptRanges"], apart := false, laid := [("unicode/utf8.acceptRanges", laid_unicode_utf8_acceptRanges), ("unicode/utf8.first", laid_unicode_utf8_first)], narrowed := true }
def FnToValidRunsUptoSaid : Prop := fnToValidRunsUptoRow.holds Tryd.pinned (OpenSpec.upto fnToValidRunsSpec)

/-- 'laws.FnPrefixes', WHERE WHAT IT READS IS OF BULK AT MOST 1048576: true; the input reads as it did. -/
def fnPrefixesUptoRow : OpenClaim := { program := "ytpijokiagkhdeaadoor", sum := "5b17e344db2a5f5fbe9dc871b95e6e5707decb0e3c8b06520518d4453bd3b145", func := "loop.example/lib-g01185/laws.FnPrefixes", spec := "fnPrefixes", named := ["unicode/utf8.first", "unicode/utf8.acceptRanges"], apart := false, laid := [("unicode/utf8.acceptRanges", laid_unicode_utf8_acceptRanges), ("unicode/utf8.first", laid_unicode_utf8_first)], narrowed := true }
def FnPrefixesUptoSaid : Prop := fnPrefixesUptoRow.holds Tryd.pinned (OpenSpec.upto fnPrefixesSpec)

/-- 'laws.FnHalves', WHERE WHAT IT READS IS OF BULK AT MOST 1048576: true; the input reads as it did. -/
def fnHalvesUptoRow : OpenClaim := { program := "ytpijokiagkhdeaadoor", sum := "5b17e344db2a5f5fbe9dc871b95e6e5707decb0e3c8b06520518d4453bd3b145", func := "loop.example/lib-g01185/laws.FnHalves", spec := "fnHalves", named := ["unicode/utf8.first", "unicode/utf8.acceptRanges"], apart := false, laid := [("unicode/utf8.acceptRanges", laid_unicode_utf8_acceptRanges), ("unicode/utf8.first", laid_unicode_utf8_first)], narrowed := true }
def FnHalvesUptoSaid : Prop := fnHalvesUptoRow.holds Tryd.pinned (OpenSpec.upto fnHalvesSpec)

/-- 'laws.FnToValidTells', WHERE WHAT IT READS IS OF BULK AT MOST 1048576: true; the input reads as it did. -/
def fnToValidTellsUptoRow : OpenClaim := { program := "ytpijokiagkhdeaadoor", sum := "5b17e344db2a5f5fbe9dc871b95e6e5707decb0e3c8b06520518d4453bd3b145", func := "loop.example/lib-g01185/laws.FnToValidTells", spec := "fnToValidTells", inPlace := ["internal/abi.NoEscape", "internal/bytealg.MakeNoZero"], named := ["unicode/utf8.first", "unicode/utf8.acceptRanges"], apart := false, laid := [("unicode/utf8.acceptRanges", laid_unicode_utf8_acceptRanges), ("unicode/utf8.first", laid_unicode_utf8_first)], narrowed := true }
def FnToValidTellsUptoSaid : Prop := fnToValidTellsUptoRow.holds Tryd.pinned (OpenSpec.upto fnToValidTellsSpec)

/-- 'laws.FnLast', WHERE WHAT IT READS IS OF BULK AT MOST 1048576: true; the input reads as it did. -/
def fnLastUptoRow : OpenClaim := { program := "ytpijokiagkhdeaadoor", sum := "5b17e344db2a5f5fbe9dc871b95e6e5707decb0e3c8b06520518d4453bd3b145", func := "loop.example/lib-g01185/laws.FnLast", spec := "fnLast", named := ["unicode/utf8.first", "unicode/utf8.acceptRanges"], apart := false, laid := [("unicode/utf8.acceptRanges", laid_unicode_utf8_acceptRanges), ("unicode/utf8.first", laid_unicode_utf8_first)], narrowed := true }
def FnLastUptoSaid : Prop := fnLastUptoRow.holds Tryd.pinned (OpenSpec.upto fnLastSpec)

end Rows
end Go.Proofs.YtpijokiagkhdeaaDoor
