/-
  NARROWER THAN 'FOR EVERY INPUT', by the rows' own cells (each row's printed sentence says how): FnStrings: laid · FnFullInvalid: laid · FnFullRune: laid · FnFullShort: laid · FnFullFour: laid · FnExactDecodeRuneInString: laid · FnExactValidString: laid · FnExactDecodeRune: laid · FnExactValid: laid · FnValidJoin: laid · FnConstants: laid · FnRunesBack: laid.
  DERIVED. THE GIVEN ROWS OF THIS SEAT. 12 by the template 'for every input the law returns true; each argument reads behind the call as it read before'; 0 by the template 'total and deterministic' (their statements: YtgjdlcnmfpbbhaaDoorTotals.lean).
  GIVEN WITH THE SEED: the statements are not yours to turn. If you find one false, say at which input.
  Laid BY PROGRAM, IN A SANDBOX (cutbox-rows.mjs): the forced cells as the released guide's own fill.sh prints them over the translation 0fa84f85c28b2505… (all of the seat's roots in one cut). By AI agents, Wed Nov 11 2026. No macro, syntax, notation, axiom, sorry.
-/
import Derived.Test.YtgjdlcnmfpbbhaaDoorChecked
import GoSem.PinnedTables
import GoSem.Claim
import GoSem.ClaimJoined
import GoSem.ClaimMapViews
import Derived.JoinedTies
import Derived.KernelRfl
namespace Go.Proofs.YtgjdlcnmfpbbhaaDoor
/- THE CELL 'sum', in the pinned program and in every row, IS THE sha256 OF THE DUMP (.gsa) THAT YtgjdlcnmfpbbhaaDoorProg.lean LOADS. Nothing in Lean hashes anything: it is a label: what it is worth is what the hold of that sum in a sandbox is worth. -/
noncomputable def Tryd.pinned : Pinned := { name := "ytgjdlcnmfpbbhaadoor", sum := "0fa84f85c28b2505899edba7d9e391c133c248991c87e77e2aacb02e351f9395", checked := Tryd.checked }
namespace Rows
def none {H : Type} : Left H := { results := [], args := [] }

/- WHAT THE LISTED PACKAGE-LEVEL VARIABLES READ AS WHEN THE CALL BEGINS. Each datum BY PROGRAM (the guide's laid-datum.mjs) off the statement by which the dump's own 'gosem.cut.vars' lays the variable. In a bare row this is a premise. The card (YtgjdlcnmfpbbhaaDoorCards.lean) ties it to the program's text. -/
def laid_unicode_utf8_acceptRanges {H : Type} : DataW H := .agg [.agg [.lit (.int .u8 128), .lit (.int .u8 191)], .agg [.lit (.int .u8 160), .lit (.int .u8 191)], .agg [.lit (.int .u8 128), .lit (.int .u8 159)], .agg [.lit (.int .u8 144), .lit (.int .u8 191)], .agg [.lit (.int .u8 128), .lit (.int .u8 143)], .agg [.lit (.int .u8 0), .lit (.int .u8 0)], .agg [.lit (.int .u8 0), .lit (.int .u8 0)], .agg [.lit (.int .u8 0), .lit (.int .u8 0)], .agg [.lit (.int .u8 0), .lit (.int .u8 0)], .agg [.lit (.int .u8 0), .lit (.int .u8 0)], .agg [.lit (.int .u8 0), .lit (.int .u8 0)], .agg [.lit (.int .u8 0), .lit (.int .u8 0)], .agg [.lit (.int .u8 0), .lit (.int .u8 0)], .agg [.lit (.int .u8 0), .lit (.int .u8 0)], .agg [.lit (.int .u8 0), .lit (.int .u8 0)], .agg [.lit (.int .u8 0), .lit (.int .u8 0)]]
/-- One of Go's own tables, pinned by name: the form's constant. -/
def laid_unicode_utf8_first : DataW Unit := Go.Pinned.utf8First

/-- 'laws.FnStrings': WHATEVER THE INPUT: true; the input reads as it did. -/
def fnStringsSpec : ChangeSpec := { name := "fnStrings", fn := fun _ => fun
  | [d] => { results := [.lit (.bool true)], args := [d] }
  | _ => none }
def fnStringsRow : OpenClaim := { program := "ytgjdlcnmfpbbhaadoor", sum := "0fa84f85c28b2505899edba7d9e391c133c248991c87e77e2aacb02e351f9395", func := "loop.example/lib-g01185/laws.FnStrings", spec := "fnStrings", named := ["unicode/utf8.first", "unicode/utf8.acceptRanges"], apart := false, laid := [("unicode/utf8.acceptRanges", laid_unicode_utf8_acceptRanges), ("unicode/utf8.first", laid_unicode_utf8_first)] }
def FnStringsSaid : Prop := fnStringsRow.holds Tryd.pinned (OpenSpec.ofChange fnStringsSpec)

/-- ITS FALSE NEIGHBOUR: 'it returns false'. Refute it at one input. -/
def fnStringsWrong : ChangeSpec := { name := "fnStrings", fn := fun _ => fun
  | [d] => { results := [.lit (.bool false)], args := [d] }
  | _ => none }
def FnStringsWrongFalsely : Prop := fnStringsRow.holds Tryd.pinned (OpenSpec.ofChange fnStringsWrong)

/-- 'laws.FnFullInvalid': WHATEVER THE INPUT: true; the input reads as it did. -/
def fnFullInvalidSpec : ChangeSpec := { name := "fnFullInvalid", fn := fun _ => fun
  | [d] => { results := [.lit (.bool true)], args := [d] }
  | _ => none }
def fnFullInvalidRow : OpenClaim := { program := "ytgjdlcnmfpbbhaadoor", sum := "0fa84f85c28b2505899edba7d9e391c133c248991c87e77e2aacb02e351f9395", func := "loop.example/lib-g01185/laws.FnFullInvalid", spec := "fnFullInvalid", named := ["unicode/utf8.first", "unicode/utf8.acceptRanges"], apart := false, laid := [("unicode/utf8.acceptRanges", laid_unicode_utf8_acceptRanges), ("unicode/utf8.first", laid_unicode_utf8_first)] }
def FnFullInvalidSaid : Prop := fnFullInvalidRow.holds Tryd.pinned (OpenSpec.ofChange fnFullInvalidSpec)

/-- ITS FALSE NEIGHBOUR: 'it returns false'. Refute it at one input. -/
def fnFullInvalidWrong : ChangeSpec := { name := "fnFullInvalid", fn := fun _ => fun
  | [d] => { results := [.lit (.bool false)], args := [d] }
  | _ => none }
def FnFullInvalidWrongFalsely : Prop := fnFullInvalidRow.holds Tryd.pinned (OpenSpec.ofChange fnFullInvalidWrong)

/-- 'laws.FnFullRune': WHATEVER THE INPUT: true; the input reads as it did. -/
def fnFullRuneSpec : ChangeSpec := { name := "fnFullRune", fn := fun _ => fun
  | [d] => { results := [.lit (.bool true)], args := [d] }
  | _ => none }
def fnFullRuneRow : OpenClaim := { program := "ytgjdlcnmfpbbhaadoor", sum := "0fa84f85c28b2505899edba7d9e391c133c248991c87e77e2aacb02e351f9395", func := "loop.example/lib-g01185/laws.FnFullRune", spec := "fnFullRune", named := ["unicode/utf8.first", "unicode/utf8.acceptRanges"], apart := false, laid := [("unicode/utf8.acceptRanges", laid_unicode_utf8_acceptRanges), ("unicode/utf8.first", laid_unicode_utf8_first)] }
def FnFullRuneSaid : Prop := fnFullRuneRow.holds Tryd.pinned (OpenSpec.ofChange fnFullRuneSpec)

/-- ITS FALSE NEIGHBOUR: 'it returns false'. Refute it at one input. -/
def fnFullRuneWrong : ChangeSpec := { name := "fnFullRune", fn := fun _ => fun
  | [d] => { results := [.lit (.bool false)], args := [d] }
  | _ => none }
def FnFullRuneWrongFalsely : Prop := fnFullRuneRow.holds Tryd.pinned (OpenSpec.ofChange fnFullRuneWrong)

/-- 'laws.FnFullShort': WHATEVER THE INPUT: true; the input reads as it did. -/
def fnFullShortSpec : ChangeSpec := { name := "fnFullShort", fn := fun _ => fun
  | [d1, d2, d3, d4] => { results := [.lit (.bool true)], args := [d1, d2, d3, d4] }
  | _ => none }
def fnFullShortRow : OpenClaim := { program := "ytgjdlcnmfpbbhaadoor", sum := "0fa84f85c28b2505899edba7d9e391c133c248991c87e77e2aacb02e351f9395", func := "loop.example/lib-g01185/laws.FnFullShort", spec := "fnFullShort", named := ["unicode/utf8.first", "unicode/utf8.acceptRanges"], apart := false, laid := [("unicode/utf8.acceptRanges", laid_unicode_utf8_acceptRanges), ("unicode/utf8.first", laid_unicode_utf8_first)] }
def FnFullShortSaid : Prop := fnFullShortRow.holds Tryd.pinned (OpenSpec.ofChange fnFullShortSpec)

/-- ITS FALSE NEIGHBOUR: 'it returns false'. Refute it at one input. -/
def fnFullShortWrong : ChangeSpec := { name := "fnFullShort", fn := fun _ => fun
  | [d1, d2, d3, d4] => { results := [.lit (.bool false)], args := [d1, d2, d3, d4] }
  | _ => none }
def FnFullShortWrongFalsely : Prop := fnFullShortRow.holds Tryd.pinned (OpenSpec.ofChange fnFullShortWrong)

/-- 'laws.FnFullFour': WHATEVER THE INPUT: true; the input reads as it did. -/
def fnFullFourSpec : ChangeSpec := { name := "fnFullFour", fn := fun _ => fun
  | [d1, d2, d3, d4, d5] => { results := [.lit (.bool true)], args := [d1, d2, d3, d4, d5] }
  | _ => none }
def fnFullFourRow : OpenClaim := { program := "ytgjdlcnmfpbbhaadoor", sum := "0fa84f85c28b2505899edba7d9e391c133c248991c87e77e2aacb02e351f9395", func := "loop.example/lib-g01185/laws.FnFullFour", spec := "fnFullFour", named := ["unicode/utf8.first", "unicode/utf8.acceptRanges"], apart := false, laid := [("unicode/utf8.acceptRanges", laid_unicode_utf8_acceptRanges), ("unicode/utf8.first", laid_unicode_utf8_first)] }
def FnFullFourSaid : Prop := fnFullFourRow.holds Tryd.pinned (OpenSpec.ofChange fnFullFourSpec)

/-- ITS FALSE NEIGHBOUR: 'it returns false'. Refute it at one input. -/
def fnFullFourWrong : ChangeSpec := { name := "fnFullFour", fn := fun _ => fun
  | [d1, d2, d3, d4, d5] => { results := [.lit (.bool false)], args := [d1, d2, d3, d4, d5] }
  | _ => none }
def FnFullFourWrongFalsely : Prop := fnFullFourRow.holds Tryd.pinned (OpenSpec.ofChange fnFullFourWrong)

/-- 'laws.FnExactDecodeRuneInString': WHATEVER THE INPUT: true; the input reads as it did. -/
def fnExactDecodeRuneInStringSpec : ChangeSpec := { name := "fnExactDecodeRuneInString", fn := fun _ => fun
  | [d] => { results := [.lit (.bool true)], args := [d] }
  | _ => none }
def fnExactDecodeRuneInStringRow : OpenClaim := { program := "ytgjdlcnmfpbbhaadoor", sum := "0fa84f85c28b2505899edba7d9e391c133c248991c87e77e2aacb02e351f9395", func := "loop.example/lib-g01185/laws.FnExactDecodeRuneInString", spec := "fnExactDecodeRuneInString", named := ["unicode/utf8.first", "unicode/utf8.acceptRanges"], apart := false, laid := [("unicode/utf8.acceptRanges", laid_unicode_utf8_acceptRanges), ("unicode/utf8.first", laid_unicode_utf8_first)] }
def FnExactDecodeRuneInStringSaid : Prop := fnExactDecodeRuneInStringRow.holds Tryd.pinned (OpenSpec.ofChange fnExactDecodeRuneInStringSpec)

/-- ITS FALSE NEIGHBOUR: 'it returns false'. Refute it at one input. -/
def fnExactDecodeRuneInStringWrong : ChangeSpec := { name := "fnExactDecodeRuneInString", fn := fun _ => fun
  | [d] => { results := [.lit (.bool false)], args := [d] }
  | _ => none }
def FnExactDecodeRuneInStringWrongFalsely : Prop := fnExactDecodeRuneInStringRow.holds Tryd.pinned (OpenSpec.ofChange fnExactDecodeRuneInStringWrong)

/-- 'laws.FnExactValidString': WHATEVER THE INPUT: true; the input reads as it did. -/
def fnExactValidStringSpec : ChangeSpec := { name := "fnExactValidString", fn := fun _ => fun
  | [d] => { results := [.lit (.bool true)], args := [d] }
  | _ => none }
def fnExactValidStringRow : OpenClaim := { program := "ytgjdlcnmfpbbhaadoor", sum := "0fa84f85c28b2505899edba7d9e391c133c248991c87e77e2aacb02e351f9395", func := "loop.example/lib-g01185/laws.FnExactValidString", spec := "fnExactValidString", named := ["unicode/utf8.first", "unicode/utf8.acceptRanges"], apart := false, laid := [("unicode/utf8.acceptRanges", laid_unicode_utf8_acceptRanges), ("unicode/utf8.first", laid_unicode_utf8_first)] }
def FnExactValidStringSaid : Prop := fnExactValidStringRow.holds Tryd.pinned (OpenSpec.ofChange fnExactValidStringSpec)

/-- ITS FALSE NEIGHBOUR: 'it returns false'. Refute it at one input. -/
def fnExactValidStringWrong : ChangeSpec := { name := "fnExactValidString", fn := fun _ => fun
  | [d] => { results := [.lit (.bool false)], args := [d] }
  | _ => none }
def FnExactValidStringWrongFalsely : Prop := fnExactValidStringRow.holds Tryd.pinned (OpenSpec.ofChange fnExactValidStringWrong)

/-- 'laws.FnExactDecodeRune': WHATEVER THE INPUT: true; the input reads as it did. -/
def fnExactDecodeRuneSpec : ChangeSpec := { name := "fnExactDecodeRune", fn := fun _ => fun
  | [d] => { results := [.lit (.bool true)], args := [d] }
  | _ => none }
def fnExactDecodeRuneRow : OpenClaim := { program := "ytgjdlcnmfpbbhaadoor", sum := "0fa84f85c28b2505899edba7d9e391c133c248991c87e77e2aacb02e351f9395", func := "loop.example/lib-g01185/laws.FnExactDecodeRune", spec := "fnExactDecodeRune", named := ["unicode/utf8.first", "unicode/utf8.acceptRanges"], apart := false, laid := [("unicode/utf8.acceptRanges", laid_unicode_utf8_acceptRanges), ("unicode/utf8.first", laid_unicode_utf8_first)] }
def FnExactDecodeRuneSaid : Prop := fnExactDecodeRuneRow.holds Tryd.pinned (OpenSpec.ofChange fnExactDecodeRuneSpec)

/-- ITS FALSE NEIGHBOUR: 'it returns false'. Refute it at one input. -/
def fnExactDecodeRuneWrong : ChangeSpec := { name := "fnExactDecodeRune", fn := fun _ => fun
  | [d] => { results := [.lit (.bool false)], args := [d] }
  | _ => none }
def FnExactDecodeRuneWrongFalsely : Prop := fnExactDecodeRuneRow.holds Tryd.pinned (OpenSpec.ofChange fnExactDecodeRuneWrong)

/-- 'laws.FnExactValid': WHATEVER THE INPUT: true; the input reads as it did. -/
def fnExactValidSpec : ChangeSpec := { name := "fnExactValid", fn := fun _ => fun
  | [d] => { results := [.lit (.bool true)], args := [d] }
  | _ => none }
def fnExactValidRow : OpenClaim := { program := "ytgjdlcnmfpbbhaadoor", sum := "0fa84f85c28b2505899edba7d9e391c133c248991c87e77e2aacb02e351f9395", func := "loop.example/lib-g01185/laws.FnExactValid", spec := "fnExactValid", named := ["unicode/utf8.first", "unicode/utf8.acceptRanges"], apart := false, laid := [("unicode/utf8.acceptRanges", laid_unicode_utf8_acceptRanges), ("unicode/utf8.first", laid_unicode_utf8_first)] }
def FnExactValidSaid : Prop := fnExactValidRow.holds Tryd.pinned (OpenSpec.ofChange fnExactValidSpec)

/-- ITS FALSE NEIGHBOUR: 'it returns false'. Refute it at one input. -/
def fnExactValidWrong : ChangeSpec := { name := "fnExactValid", fn := fun _ => fun
  | [d] => { results := [.lit (.bool false)], args := [d] }
  | _ => none }
def FnExactValidWrongFalsely : Prop := fnExactValidRow.holds Tryd.pinned (OpenSpec.ofChange fnExactValidWrong)

/-- 'laws.FnValidJoin': WHATEVER THE INPUT: true; the input reads as it did. -/
def fnValidJoinSpec : ChangeSpec := { name := "fnValidJoin", fn := fun _ => fun
  | [d1, d2] => { results := [.lit (.bool true)], args := [d1, d2] }
  | _ => none }
def fnValidJoinRow : OpenClaim := { program := "ytgjdlcnmfpbbhaadoor", sum := "0fa84f85c28b2505899edba7d9e391c133c248991c87e77e2aacb02e351f9395", func := "loop.example/lib-g01185/laws.FnValidJoin", spec := "fnValidJoin", named := ["unicode/utf8.first", "unicode/utf8.acceptRanges"], apart := false, laid := [("unicode/utf8.acceptRanges", laid_unicode_utf8_acceptRanges), ("unicode/utf8.first", laid_unicode_utf8_first)] }
def FnValidJoinSaid : Prop := fnValidJoinRow.holds Tryd.pinned (OpenSpec.ofChange fnValidJoinSpec)

/-- ITS FALSE NEIGHBOUR: 'it returns false'. Refute it at one input. -/
def fnValidJoinWrong : ChangeSpec := { name := "fnValidJoin", fn := fun _ => fun
  | [d1, d2] => { results := [.lit (.bool false)], args := [d1, d2] }
  | _ => none }
def FnValidJoinWrongFalsely : Prop := fnValidJoinRow.holds Tryd.pinned (OpenSpec.ofChange fnValidJoinWrong)

/-- 'laws.FnConstants': WHATEVER THE INPUT: true; the input reads as it did. -/
def fnConstantsSpec : ChangeSpec := { name := "fnConstants", fn := fun _ => fun
  | [d] => { results := [.lit (.bool true)], args := [d] }
  | _ => none }
def fnConstantsRow : OpenClaim := { program := "ytgjdlcnmfpbbhaadoor", sum := "0fa84f85c28b2505899edba7d9e391c133c248991c87e77e2aacb02e351f9395", func := "loop.example/lib-g01185/laws.FnConstants", spec := "fnConstants", named := ["unicode/utf8.first", "unicode/utf8.acceptRanges"], apart := false, laid := [("unicode/utf8.acceptRanges", laid_unicode_utf8_acceptRanges), ("unicode/utf8.first", laid_unicode_utf8_first)] }
def FnConstantsSaid : Prop := fnConstantsRow.holds Tryd.pinned (OpenSpec.ofChange fnConstantsSpec)

/-- ITS FALSE NEIGHBOUR: 'it returns false'. Refute it at one input. -/
def fnConstantsWrong : ChangeSpec := { name := "fnConstants", fn := fun _ => fun
  | [d] => { results := [.lit (.bool false)], args := [d] }
  | _ => none }
def FnConstantsWrongFalsely : Prop := fnConstantsRow.holds Tryd.pinned (OpenSpec.ofChange fnConstantsWrong)

/-- 'laws.FnRunesBack': WHATEVER THE INPUT: true; the input reads as it did. -/
def fnRunesBackSpec : ChangeSpec := { name := "fnRunesBack", fn := fun _ => fun
  | [d] => { results := [.lit (.bool true)], args := [d] }
  | _ => none }
def fnRunesBackRow : OpenClaim := { program := "ytgjdlcnmfpbbhaadoor", sum := "0fa84f85c28b2505899edba7d9e391c133c248991c87e77e2aacb02e351f9395", func := "loop.example/lib-g01185/laws.FnRunesBack", spec := "fnRunesBack", named := ["unicode/utf8.first", "unicode/utf8.acceptRanges"], apart := false, laid := [("unicode/utf8.acceptRanges", laid_unicode_utf8_acceptRanges), ("unicode/utf8.first", laid_unicode_utf8_first)] }
def FnRunesBackSaid : Prop := fnRunesBackRow.holds Tryd.pinned (OpenSpec.ofChange fnRunesBackSpec)

/-- ITS FALSE NEIGHBOUR: 'it returns false'. Refute it at one input. -/
def fnRunesBackWrong : ChangeSpec := { name := "fnRunesBack", fn := fun _ => fun
  | [d] => { results := [.lit (.bool false)], args := [d] }
  | _ => none }
def FnRunesBackWrongFalsely : Prop := fnRunesBackRow.holds Tryd.pinned (OpenSpec.ofChange fnRunesBackWrong)

/- THE SECOND FORM. 'bulk': how many values and letters a reading holds, each counted each time it is reached (what is shared counts as often as it is met; a slice's spare places count too). A statement '..UptoSaid' is the law's where the arguments, and the package variables that the reading takes, are together of bulk at most 1048576: NARROWER than '..Said'. Prove '..Said' where nothing that the law and all that it calls make is longer than what came in: it says more and counts as full. Else prove '..UptoSaid'. A law counts once. -/
mutual
def uptoBulk {H : Type} : DataW H → Nat
  | .lit (.string bytes) => bytes.length + 1
  | .lit _ => 1
  | .nil => 1
  | .ptr d => uptoBulk d + 1
  | .slice elems spare => uptoBulkAll elems + uptoBulkAll spare + 1
  | .agg parts => uptoBulkAll parts + 1
  | .iface _ d => uptoBulk d + 1
  | .map entries => uptoBulkEntries entries + 1
  | .held _ => 1
def uptoBulkAll {H : Type} : List (DataW H) → Nat
  | [] => 0
  | d :: r => uptoBulk d + uptoBulkAll r
def uptoBulkEntries {H : Type} : List (Lit × DataW H) → Nat
  | [] => 0
  | x :: r => uptoBulkEntry x + uptoBulkEntries r
def uptoBulkEntry {H : Type} : Lit × DataW H → Nat
  | (.string bytes, d) => bytes.length + uptoBulk d + 1
  | (_, d) => uptoBulk d + 1
 end
def uptoSmall : (H : Type) → List (DataW H) → Bool := fun _ ds => decide (uptoBulkAll ds ≤ 1048576)
def OpenSpec.upto (s : _root_.Go.ChangeSpec) : _root_.Go.OpenSpec := { _root_.Go.OpenSpec.ofChange s with cond := some uptoSmall }

/-- 'laws.FnStrings', WHERE WHAT IT READS IS OF BULK AT MOST 1048576: true; the input reads as it did. -/
def fnStringsUptoRow : OpenClaim := { program := "ytgjdlcnmfpbbhaadoor", sum := "0fa84f85c28b2505899edba7d9e391c133c248991c87e77e2aacb02e351f9395", func := "loop.example/lib-g01185/laws.FnStrings", spec := "fnStrings", named := ["unicode/utf8.first", "unicode/utf8.acceptRanges"], apart := false, laid := [("unicode/utf8.acceptRanges", laid_unicode_utf8_acceptRanges), ("unicode/utf8.first", laid_unicode_utf8_first)], narrowed := true }
def FnStringsUptoSaid : Prop := fnStringsUptoRow.holds Tryd.pinned (OpenSpec.upto fnStringsSpec)

/-- 'laws.FnFullInvalid', WHERE WHAT IT READS IS OF BULK AT MOST 1048576: true; the input reads as it did. -/
def fnFullInvalidUptoRow : OpenClaim := { program := "ytgjdlcnmfpbbhaadoor", sum := "0fa84f85c28b2505899edba7d9e391c133c248991c87e77e2aacb02e351f9395", func := "loop.example/lib-g01185/laws.FnFullInvalid", spec := "fnFullInvalid", named := ["unicode/utf8.first", "unicode/utf8.acceptRanges"], apart := false, laid := [("unicode/utf8.acceptRanges", laid_unicode_utf8_acceptRanges), ("unicode/utf8.first", laid_unicode_utf8_first)], narrowed := true }
def FnFullInvalidUptoSaid : Prop := fnFullInvalidUptoRow.holds Tryd.pinned (OpenSpec.upto fnFullInvalidSpec)

/-- 'laws.FnFullRune', WHERE WHAT IT READS IS OF BULK AT MOST 1048576: true; the input reads as it did. -/
def fnFullRuneUptoRow : OpenClaim := { program := "ytgjdlcnmfpbbhaadoor", sum := "0fa84f85c28b2505899edba7d9e391c133c248991c87e77e2aacb02e351f9395", func := "loop.example/lib-g01185/laws.FnFullRune", spec := "fnFullRune", named := ["unicode/utf8.first", "unicode/utf8.acceptRanges"], apart := false, laid := [("unicode/utf8.acceptRanges", laid_unicode_utf8_acceptRanges), ("unicode/utf8.first", laid_unicode_utf8_first)], narrowed := true }
def FnFullRuneUptoSaid : Prop := fnFullRuneUptoRow.holds Tryd.pinned (OpenSpec.upto fnFullRuneSpec)

/-- 'laws.FnFullShort', WHERE WHAT IT READS IS OF BULK AT MOST 1048576: true; the input reads as it did. -/
def fnFullShortUptoRow : OpenClaim := { program := "ytgjdlcnmfpbbhaadoor", sum := "0fa84f85c28b2505899edba7d9e391c133c248991c87e77e2aacb02e351f9395", func := "loop.example/lib-g01185/laws.FnFullShort", spec := "fnFullShort", named := ["unicode/utf8.first", "unicode/utf8.acceptRanges"], apart := false, laid := [("unicode/utf8.acceptRanges", laid_unicode_utf8_acceptRanges), ("unicode/utf8.first", laid_unicode_utf8_first)], narrowed := true }
def FnFullShortUptoSaid : Prop := fnFullShortUptoRow.holds Tryd.pinned (OpenSpec.upto fnFullShortSpec)

/-- 'laws.FnFullFour', WHERE WHAT IT READS IS OF BULK AT MOST 1048576: true; the input reads as it did. -/
def fnFullFourUptoRow : OpenClaim := { program := "ytgjdlcnmfpbbhaadoor", sum := "0fa84f85c28b2505899edba7d9e391c133c248991c87e77e2aacb02e351f9395", func := "loop.example/lib-g01185/laws.FnFullFour", spec := "fnFullFour", named := ["unicode/utf8.first", "unicode/utf8.acceptRanges"], apart := false, laid := [("unicode/utf8.acceptRanges", laid_unicode_utf8_acceptRanges), ("unicode/utf8.first", laid_unicode_utf8_first)], narrowed := true }
def FnFullFourUptoSaid : Prop := fnFullFourUptoRow.holds Tryd.pinned (OpenSpec.upto fnFullFourSpec)

/-- 'laws.FnExactDecodeRuneInString', WHERE WHAT IT READS IS OF BULK AT MOST 1048576: true; the input reads as it did. -/
def fnExactDecodeRuneInStringUptoRow : OpenClaim := { program := "ytgjdlcnmfpbbhaadoor", sum := "0fa84f85c28b2505899edba7d9e391c133c248991c87e77e2aacb02e351f9395", func := "loop.example/lib-g01185/laws.FnExactDecodeRuneInString", spec := "fnExactDecodeRuneInString", named := ["unicode/utf8.first", "unicode/utf8.acceptRanges"], apart := false, laid := [("unicode/utf8.acceptRanges", laid_unicode_utf8_acceptRanges), ("unicode/utf8.first", laid_unicode_utf8_first)], narrowed := true }
def FnExactDecodeRuneInStringUptoSaid : Prop := fnExactDecodeRuneInStringUptoRow.holds Tryd.pinned (OpenSpec.upto fnExactDecodeRuneInStringSpec)

/-- 'laws.FnExactValidString', WHERE WHAT IT READS IS OF BULK AT MOST 1048576: true; the input reads as it did. -/
def fnExactValidStringUptoRow : OpenClaim := { program := "ytgjdlcnmfpbbhaadoor", sum := "0fa84f85c28b2505899edba7d9e391c133c248991c87e77e2aacb02e351f9395", func := "loop.example/lib-g01185/laws.FnExactValidString", spec := "fnExactValidString", named := ["unicode/utf8.first", "unicode/utf8.acceptRanges"], apart := false, laid := [("unicode/utf8.acceptRanges", laid_unicode_utf8_acceptRanges), ("unicode/utf8.first", laid_unicode_utf8_first)], narrowed := true }
def FnExactValidStringUptoSaid : Prop := fnExactValidStringUptoRow.holds Tryd.pinned (OpenSpec.upto fnExactValidStringSpec)

/-- 'laws.FnExactDecodeRune', WHERE WHAT IT READS IS OF BULK AT MOST 1048576: true; the input reads as it did. -/
def fnExactDecodeRuneUptoRow : OpenClaim := { program := "ytgjdlcnmfpbbhaadoor", sum := "0fa84f85c28b2505899edba7d9e391c133c248991c87e77e2aacb02e351f9395", func := "loop.example/lib-g01185/laws.FnExactDecodeRune", spec := "fnExactDecodeRune", named := ["unicode/utf8.first", "unicode/utf8.acceptRanges"], apart := false, laid := [("unicode/utf8.acceptRanges", laid_unicode_utf8_acceptRanges), ("unicode/utf8.first", laid_unicode_utf8_first)], narrowed := true }
def FnExactDecodeRuneUptoSaid : Prop := fnExactDecodeRuneUptoRow.holds Tryd.pinned (OpenSpec.upto fnExactDecodeRuneSpec)

/-- 'laws.FnExactValid', WHERE WHAT IT READS IS OF BULK AT MOST 1048576: true; the input reads as it did. -/
def fnExactValidUptoRow : OpenClaim := { program := "ytgjdlcnmfpbbhaadoor", sum := "0fa84f85c28b2505899edba7d9e391c133c248991c87e77e2aacb02e351f9395", func := "loop.example/lib-g01185/laws.FnExactValid", spec := "fnExactValid", named := ["unicode/utf8.first", "unicode/utf8.acceptRanges"], apart := false, laid := [("unicode/utf8.acceptRanges", laid_unicode_utf8_acceptRanges), ("unicode/utf8.first", laid_unicode_utf8_first)], narrowed := true }
def FnExactValidUptoSaid : Prop := fnExactValidUptoRow.holds Tryd.pinned (OpenSpec.upto fnExactValidSpec)

/-- 'laws.FnValidJoin', WHERE WHAT IT READS IS OF BULK AT MOST 1048576: true; the input reads as it did. -/
def fnValidJoinUptoRow : OpenClaim := { program := "ytgjdlcnmfpbbhaadoor", sum := "0fa84f85c28b2505899edba7d9e391c133c248991c87e77e2aacb02e351f9395", func := "loop.example/lib-g01185/laws.FnValidJoin", spec := "fnValidJoin", named := ["unicode/utf8.first", "unicode/utf8.acceptRanges"], apart := false, laid := [("unicode/utf8.acceptRanges", laid_unicode_utf8_acceptRanges), ("unicode/utf8.first", laid_unicode_utf8_first)], narrowed := true }
def FnValidJoinUptoSaid : Prop := fnValidJoinUptoRow.holds Tryd.pinned (OpenSpec.upto fnValidJoinSpec)

/-- 'laws.FnConstants', WHERE WHAT IT READS IS OF BULK AT MOST 1048576: true; the input reads as it did. -/
def fnConstantsUptoRow : OpenClaim := { program := "ytgjdlcnmfpbbhaadoor", sum := "0fa84f85c28b2505899edba7d9e391c133c248991c87e77e2aacb02e351f9395", func := "loop.example/lib-g01185/laws.FnConstants", spec := "fnConstants", named := ["unicode/utf8.first", "unicode/utf8.acceptRanges"], apart := false, laid := [("unicode/utf8.acceptRanges", laid_unicode_utf8_acceptRanges), ("unicode/utf8.first", laid_unicode_utf8_first)], narrowed := true }
def FnConstantsUptoSaid : Prop := fnConstantsUptoRow.holds Tryd.pinned (OpenSpec.upto fnConstantsSpec)

/-- 'laws.FnRunesBack', WHERE WHAT IT READS IS OF BULK AT MOST 1048576: true; the input reads as it did. -/
def fnRunesBackUptoRow : OpenClaim := { program := "ytgjdlcnmfpbbhaadoor", sum := "0fa84f85c28b2505899edba7d9e391c133c248991c87e77e2aacb02e351f9395", func := "loop.example/lib-g01185/laws.FnRunesBack", spec := "fnRunesBack", named := ["unicode/utf8.first", "unicode/utf8.acceptRanges"], apart := false, laid := [("unicode/utf8.acceptRanges", laid_unicode_utf8_acceptRanges), ("unicode/utf8.first", laid_unicode_utf8_first)], narrowed := true }
def FnRunesBackUptoSaid : Prop := fnRunesBackUptoRow.holds Tryd.pinned (OpenSpec.upto fnRunesBackSpec)

end Rows
end Go.Proofs.YtgjdlcnmfpbbhaaDoor
