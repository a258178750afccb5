/-
  No cell of these rows narrows 'for every input' (looked for: loops, veiled, ifaces, maps, wideKeys, modest, calm, conditions, laid).
  DERIVED. THE GIVEN ROWS OF THIS SEAT. 9 by the template 'for every input the law returns true; each argument reads behind the call as it read before'; 0 by the template 'total and deterministic' (their statements: YtmfdpmokphdbiaaTotals.lean).
  GIVEN WITH THE SEED: the statements are not yours to turn. If you find one false, say at which input.
  Laid BY PROGRAM, IN A SANDBOX (cutbox-rows.mjs): the forced cells as the released guide's own fill.sh prints them over the translation c2faf0f6a87045d8… (all of the seat's roots in one cut). By AI agents, Wed Nov 11 2026. No macro, syntax, notation, axiom, sorry.
-/
import Derived.Test.YtmfdpmokphdbiaaChecked
import GoSem.Claim
import GoSem.ClaimJoined
import GoSem.ClaimMapViews
import Derived.JoinedTies
import Derived.KernelRfl
namespace Go.Proofs.Ytmfdpmokphdbiaa
/- THE CELL 'sum', in the pinned program and in every row, IS THE sha256 OF THE DUMP (.gsa) THAT YtmfdpmokphdbiaaProg.lean LOADS. Nothing in Lean hashes anything: it is a label: what it is worth is what the hold of that sum in a sandbox is worth. -/
noncomputable def Try.pinned : Pinned := { name := "ytmfdpmokphdbiaa", sum := "c2faf0f6a87045d8df745624f4d9fff0e8e76616d00dd1f3d40ec47b86a7fe4d", checked := Try.checked }
namespace Rows
def none {H : Type} : Left H := { results := [], args := [] }

/-- 'laws.FnExactRangeString': WHATEVER THE INPUT: true; the input reads as it did. -/
def fnExactRangeStringSpec : ChangeSpec := { name := "fnExactRangeString", fn := fun _ => fun
  | [d] => { results := [.lit (.bool true)], args := [d] }
  | _ => none }
def fnExactRangeStringRow : OpenClaim := { program := "ytmfdpmokphdbiaa", sum := "c2faf0f6a87045d8df745624f4d9fff0e8e76616d00dd1f3d40ec47b86a7fe4d", func := "loop.example/lib-g01185/laws.FnExactRangeString", spec := "fnExactRangeString", apart := false }
def FnExactRangeStringSaid : Prop := fnExactRangeStringRow.holds Try.pinned (OpenSpec.ofChange fnExactRangeStringSpec)

/-- ITS FALSE NEIGHBOUR: 'it returns false'. Refute it at one input. -/
def fnExactRangeStringWrong : ChangeSpec := { name := "fnExactRangeString", fn := fun _ => fun
  | [d] => { results := [.lit (.bool false)], args := [d] }
  | _ => none }
def FnExactRangeStringWrongFalsely : Prop := fnExactRangeStringRow.holds Try.pinned (OpenSpec.ofChange fnExactRangeStringWrong)

/-- 'laws.FnExactRuneCountInString': WHATEVER THE INPUT: true; the input reads as it did. -/
def fnExactRuneCountInStringSpec : ChangeSpec := { name := "fnExactRuneCountInString", fn := fun _ => fun
  | [d] => { results := [.lit (.bool true)], args := [d] }
  | _ => none }
def fnExactRuneCountInStringRow : OpenClaim := { program := "ytmfdpmokphdbiaa", sum := "c2faf0f6a87045d8df745624f4d9fff0e8e76616d00dd1f3d40ec47b86a7fe4d", func := "loop.example/lib-g01185/laws.FnExactRuneCountInString", spec := "fnExactRuneCountInString", apart := false }
def FnExactRuneCountInStringSaid : Prop := fnExactRuneCountInStringRow.holds Try.pinned (OpenSpec.ofChange fnExactRuneCountInStringSpec)

/-- ITS FALSE NEIGHBOUR: 'it returns false'. Refute it at one input. -/
def fnExactRuneCountInStringWrong : ChangeSpec := { name := "fnExactRuneCountInString", fn := fun _ => fun
  | [d] => { results := [.lit (.bool false)], args := [d] }
  | _ => none }
def FnExactRuneCountInStringWrongFalsely : Prop := fnExactRuneCountInStringRow.holds Try.pinned (OpenSpec.ofChange fnExactRuneCountInStringWrong)

/-- 'laws.FnExactValidRune': WHATEVER THE INPUT: true; the input reads as it did. -/
def fnExactValidRuneSpec : ChangeSpec := { name := "fnExactValidRune", fn := fun _ => fun
  | [d] => { results := [.lit (.bool true)], args := [d] }
  | _ => none }
def fnExactValidRuneRow : OpenClaim := { program := "ytmfdpmokphdbiaa", sum := "c2faf0f6a87045d8df745624f4d9fff0e8e76616d00dd1f3d40ec47b86a7fe4d", func := "loop.example/lib-g01185/laws.FnExactValidRune", spec := "fnExactValidRune", apart := false }
def FnExactValidRuneSaid : Prop := fnExactValidRuneRow.holds Try.pinned (OpenSpec.ofChange fnExactValidRuneSpec)

/-- ITS FALSE NEIGHBOUR: 'it returns false'. Refute it at one input. -/
def fnExactValidRuneWrong : ChangeSpec := { name := "fnExactValidRune", fn := fun _ => fun
  | [d] => { results := [.lit (.bool false)], args := [d] }
  | _ => none }
def FnExactValidRuneWrongFalsely : Prop := fnExactValidRuneRow.holds Try.pinned (OpenSpec.ofChange fnExactValidRuneWrong)

/-- 'laws.FnRangePlaces': WHATEVER THE INPUT: true; the input reads as it did. -/
def fnRangePlacesSpec : ChangeSpec := { name := "fnRangePlaces", fn := fun _ => fun
  | [d] => { results := [.lit (.bool true)], args := [d] }
  | _ => none }
def fnRangePlacesRow : OpenClaim := { program := "ytmfdpmokphdbiaa", sum := "c2faf0f6a87045d8df745624f4d9fff0e8e76616d00dd1f3d40ec47b86a7fe4d", func := "loop.example/lib-g01185/laws.FnRangePlaces", spec := "fnRangePlaces", apart := false }
def FnRangePlacesSaid : Prop := fnRangePlacesRow.holds Try.pinned (OpenSpec.ofChange fnRangePlacesSpec)

/-- ITS FALSE NEIGHBOUR: 'it returns false'. Refute it at one input. -/
def fnRangePlacesWrong : ChangeSpec := { name := "fnRangePlaces", fn := fun _ => fun
  | [d] => { results := [.lit (.bool false)], args := [d] }
  | _ => none }
def FnRangePlacesWrongFalsely : Prop := fnRangePlacesRow.holds Try.pinned (OpenSpec.ofChange fnRangePlacesWrong)

/-- 'laws.FnExactRuneLen': WHATEVER THE INPUT: true; the input reads as it did. -/
def fnExactRuneLenSpec : ChangeSpec := { name := "fnExactRuneLen", fn := fun _ => fun
  | [d] => { results := [.lit (.bool true)], args := [d] }
  | _ => none }
def fnExactRuneLenRow : OpenClaim := { program := "ytmfdpmokphdbiaa", sum := "c2faf0f6a87045d8df745624f4d9fff0e8e76616d00dd1f3d40ec47b86a7fe4d", func := "loop.example/lib-g01185/laws.FnExactRuneLen", spec := "fnExactRuneLen", apart := false }
def FnExactRuneLenSaid : Prop := fnExactRuneLenRow.holds Try.pinned (OpenSpec.ofChange fnExactRuneLenSpec)

/-- ITS FALSE NEIGHBOUR: 'it returns false'. Refute it at one input. -/
def fnExactRuneLenWrong : ChangeSpec := { name := "fnExactRuneLen", fn := fun _ => fun
  | [d] => { results := [.lit (.bool false)], args := [d] }
  | _ => none }
def FnExactRuneLenWrongFalsely : Prop := fnExactRuneLenRow.holds Try.pinned (OpenSpec.ofChange fnExactRuneLenWrong)

/-- 'laws.FnCountJoin': WHATEVER THE INPUT: true; the input reads as it did. -/
def fnCountJoinSpec : ChangeSpec := { name := "fnCountJoin", fn := fun _ => fun
  | [d1, d2] => { results := [.lit (.bool true)], args := [d1, d2] }
  | _ => none }
def fnCountJoinRow : OpenClaim := { program := "ytmfdpmokphdbiaa", sum := "c2faf0f6a87045d8df745624f4d9fff0e8e76616d00dd1f3d40ec47b86a7fe4d", func := "loop.example/lib-g01185/laws.FnCountJoin", spec := "fnCountJoin", apart := false }
def FnCountJoinSaid : Prop := fnCountJoinRow.holds Try.pinned (OpenSpec.ofChange fnCountJoinSpec)

/-- ITS FALSE NEIGHBOUR: 'it returns false'. Refute it at one input. -/
def fnCountJoinWrong : ChangeSpec := { name := "fnCountJoin", fn := fun _ => fun
  | [d1, d2] => { results := [.lit (.bool false)], args := [d1, d2] }
  | _ => none }
def FnCountJoinWrongFalsely : Prop := fnCountJoinRow.holds Try.pinned (OpenSpec.ofChange fnCountJoinWrong)

/-- 'laws.FnExactRuneCount': WHATEVER THE INPUT: true; the input reads as it did. -/
def fnExactRuneCountSpec : ChangeSpec := { name := "fnExactRuneCount", fn := fun _ => fun
  | [d] => { results := [.lit (.bool true)], args := [d] }
  | _ => none }
def fnExactRuneCountRow : OpenClaim := { program := "ytmfdpmokphdbiaa", sum := "c2faf0f6a87045d8df745624f4d9fff0e8e76616d00dd1f3d40ec47b86a7fe4d", func := "loop.example/lib-g01185/laws.FnExactRuneCount", spec := "fnExactRuneCount", apart := false }
def FnExactRuneCountSaid : Prop := fnExactRuneCountRow.holds Try.pinned (OpenSpec.ofChange fnExactRuneCountSpec)

/-- ITS FALSE NEIGHBOUR: 'it returns false'. Refute it at one input. -/
def fnExactRuneCountWrong : ChangeSpec := { name := "fnExactRuneCount", fn := fun _ => fun
  | [d] => { results := [.lit (.bool false)], args := [d] }
  | _ => none }
def FnExactRuneCountWrongFalsely : Prop := fnExactRuneCountRow.holds Try.pinned (OpenSpec.ofChange fnExactRuneCountWrong)

/-- 'laws.FnRangeRunes': WHATEVER THE INPUT: true; the input reads as it did. -/
def fnRangeRunesSpec : ChangeSpec := { name := "fnRangeRunes", fn := fun _ => fun
  | [d] => { results := [.lit (.bool true)], args := [d] }
  | _ => none }
def fnRangeRunesRow : OpenClaim := { program := "ytmfdpmokphdbiaa", sum := "c2faf0f6a87045d8df745624f4d9fff0e8e76616d00dd1f3d40ec47b86a7fe4d", func := "loop.example/lib-g01185/laws.FnRangeRunes", spec := "fnRangeRunes", apart := false }
def FnRangeRunesSaid : Prop := fnRangeRunesRow.holds Try.pinned (OpenSpec.ofChange fnRangeRunesSpec)

/-- ITS FALSE NEIGHBOUR: 'it returns false'. Refute it at one input. -/
def fnRangeRunesWrong : ChangeSpec := { name := "fnRangeRunes", fn := fun _ => fun
  | [d] => { results := [.lit (.bool false)], args := [d] }
  | _ => none }
def FnRangeRunesWrongFalsely : Prop := fnRangeRunesRow.holds Try.pinned (OpenSpec.ofChange fnRangeRunesWrong)

/-- 'laws.FnAppendRune': WHATEVER THE INPUT: true; the input reads as it did. -/
def fnAppendRuneSpec : ChangeSpec := { name := "fnAppendRune", fn := fun _ => fun
  | [d1, d2] => { results := [.lit (.bool true)], args := [d1, d2] }
  | _ => none }
def fnAppendRuneRow : OpenClaim := { program := "ytmfdpmokphdbiaa", sum := "c2faf0f6a87045d8df745624f4d9fff0e8e76616d00dd1f3d40ec47b86a7fe4d", func := "loop.example/lib-g01185/laws.FnAppendRune", spec := "fnAppendRune", apart := false }
def FnAppendRuneSaid : Prop := fnAppendRuneRow.holds Try.pinned (OpenSpec.ofChange fnAppendRuneSpec)

/-- ITS FALSE NEIGHBOUR: 'it returns false'. Refute it at one input. -/
def fnAppendRuneWrong : ChangeSpec := { name := "fnAppendRune", fn := fun _ => fun
  | [d1, d2] => { results := [.lit (.bool false)], args := [d1, d2] }
  | _ => none }
def FnAppendRuneWrongFalsely : Prop := fnAppendRuneRow.holds Try.pinned (OpenSpec.ofChange fnAppendRuneWrong)

/- THE SECOND FORM. 'bulk': how many values and letters a reading holds, each counted each time it is reached (what is shared counts as often as it is met; a slice's spare places count too). A statement '..UptoSaid' is the law's where the arguments, and the package variables that the reading takes, are together of bulk at most 1048576: NARROWER than '..Said'. Prove '..Said' where nothing that the law and all that it calls make is longer than what came in: it says more and counts as full. Else prove '..UptoSaid'. A law counts once. -/
mutual
def uptoBulk {H : Type} : DataW H → Nat
  | .lit (.string bytes) => bytes.length + 1
  | .lit _ => 1
  | .nil => 1
  | .ptr d => uptoBulk d + 1
  | .slice elems spare => uptoBulkAll elems + uptoBulkAll spare + 1
  | .agg parts => uptoBulkAll parts + 1
  | .iface _ d => uptoBulk d + 1
  | .map entries => uptoBulkEntries entries + 1
  | .held _ => 1
def uptoBulkAll {H : Type} : List (DataW H) → Nat
  | [] => 0
  | d :: r => uptoBulk d + uptoBulkAll r
def uptoBulkEntries {H : Type} : List (Lit × DataW H) → Nat
  | [] => 0
  | x :: r => uptoBulkEntry x + uptoBulkEntries r
def uptoBulkEntry {H : Type} : Lit × DataW H → Nat
  | (.string bytes, d) => bytes.length + uptoBulk d + 1
  | (_, d) => uptoBulk d + 1
 end
def uptoSmall : (H : Type) → List (DataW H) → Bool := fun _ ds => decide (uptoBulkAll ds ≤ 1048576)
def OpenSpec.upto (s : _root_.Go.ChangeSpec) : _root_.Go.OpenSpec := { _root_.Go.OpenSpec.ofChange s with cond := some uptoSmall }

/-- 'laws.FnExactRangeString', WHERE WHAT IT READS IS OF BULK AT MOST 1048576: true; the input reads as it did. -/
def fnExactRangeStringUptoRow : OpenClaim := { program := "ytmfdpmokphdbiaa", sum := "c2faf0f6a87045d8df745624f4d9fff0e8e76616d00dd1f3d40ec47b86a7fe4d", func := "loop.example/lib-g01185/laws.FnExactRangeString", spec := "fnExactRangeString", apart := false, narrowed := true }
def FnExactRangeStringUptoSaid : Prop := fnExactRangeStringUptoRow.holds Try.pinned (OpenSpec.upto fnExactRangeStringSpec)

/-- 'laws.FnExactRuneCountInString', WHERE WHAT IT READS IS OF BULK AT MOST 1048576: true; the input reads as it did. -/
def fnExactRuneCountInStringUptoRow : OpenClaim := { program := "ytmfdpmokphdbiaa", sum := "c2faf0f6a87045d8df745624f4d9fff0e8e76616d00dd1f3d40ec47b86a7fe4d", func := "loop.example/lib-g01185/laws.FnExactRuneCountInString", spec := "fnExactRuneCountInString", apart := false, narrowed := true }
def FnExactRuneCountInStringUptoSaid : Prop := fnExactRuneCountInStringUptoRow.holds Try.pinned (OpenSpec.upto fnExactRuneCountInStringSpec)

/-- 'laws.FnExactValidRune', WHERE WHAT IT READS IS OF BULK AT MOST 1048576: true; the input reads as it did. -/
def fnExactValidRuneUptoRow : OpenClaim := { program := "ytmfdpmokphdbiaa", sum := "c2faf0f6a87045d8df745624f4d9fff0e8e76616d00dd1f3d40ec47b86a7fe4d", func := "loop.example/lib-g01185/laws.FnExactValidRune", spec := "fnExactValidRune", apart := false, narrowed := true }
def FnExactValidRuneUptoSaid : Prop := fnExactValidRuneUptoRow.holds Try.pinned (OpenSpec.upto fnExactValidRuneSpec)

/-- 'laws.FnRangePlaces', WHERE WHAT IT READS IS OF BULK AT MOST 1048576: true; the input reads as it did. -/
def fnRangePlacesUptoRow : OpenClaim := { program := "ytmfdpmokphdbiaa", sum := "c2faf0f6a87045d8df745624f4d9fff0e8e76616d00dd1f3d40ec47b86a7fe4d", func := "loop.example/lib-g01185/laws.FnRangePlaces", spec := "fnRangePlaces", apart := false, narrowed := true }
def FnRangePlacesUptoSaid : Prop := fnRangePlacesUptoRow.holds Try.pinned (OpenSpec.upto fnRangePlacesSpec)

/-- 'laws.FnExactRuneLen', WHERE WHAT IT READS IS OF BULK AT MOST 1048576: true; the input reads as it did. -/
def fnExactRuneLenUptoRow : OpenClaim := { program := "ytmfdpmokphdbiaa", sum := "c2faf0f6a87045d8df745624f4d9fff0e8e76616d00dd1f3d40ec47b86a7fe4d", func := "loop.example/lib-g01185/laws.FnExactRuneLen", spec := "fnExactRuneLen", apart := false, narrowed := true }
def FnExactRuneLenUptoSaid : Prop := fnExactRuneLenUptoRow.holds Try.pinned (OpenSpec.upto fnExactRuneLenSpec)

/-- 'laws.FnCountJoin', WHERE WHAT IT READS IS OF BULK AT MOST 1048576: true; the input reads as it did. -/
def fnCountJoinUptoRow : OpenClaim := { program := "ytmfdpmokphdbiaa", sum := "c2faf0f6a87045d8df745624f4d9fff0e8e76616d00dd1f3d40ec47b86a7fe4d", func := "loop.example/lib-g01185/laws.FnCountJoin", spec := "fnCountJoin", apart := false, narrowed := true }
def FnCountJoinUptoSaid : Prop := fnCountJoinUptoRow.holds Try.pinned (OpenSpec.upto fnCountJoinSpec)

/-- 'laws.FnExactRuneCount', WHERE WHAT IT READS IS OF BULK AT MOST 1048576: true; the input reads as it did. -/
def fnExactRuneCountUptoRow : OpenClaim := { program := "ytmfdpmokphdbiaa", sum := "c2faf0f6a87045d8df745624f4d9fff0e8e76616d00dd1f3d40ec47b86a7fe4d", func := "loop.example/lib-g01185/laws.FnExactRuneCount", spec := "fnExactRuneCount", apart := false, narrowed := true }
def FnExactRuneCountUptoSaid : Prop := fnExactRuneCountUptoRow.holds Try.pinned (OpenSpec.upto fnExactRuneCountSpec)

/-- 'laws.FnRangeRunes', WHERE WHAT IT READS IS OF BULK AT MOST 1048576: true; the input reads as it did. -/
def fnRangeRunesUptoRow : OpenClaim := { program := "ytmfdpmokphdbiaa", sum := "c2faf0f6a87045d8df745624f4d9fff0e8e76616d00dd1f3d40ec47b86a7fe4d", func := "loop.example/lib-g01185/laws.FnRangeRunes", spec := "fnRangeRunes", apart := false, narrowed := true }
def FnRangeRunesUptoSaid : Prop := fnRangeRunesUptoRow.holds Try.pinned (OpenSpec.upto fnRangeRunesSpec)

/-- 'laws.FnAppendRune', WHERE WHAT IT READS IS OF BULK AT MOST 1048576: true; the input reads as it did. -/
def fnAppendRuneUptoRow : OpenClaim := { program := "ytmfdpmokphdbiaa", sum := "c2faf0f6a87045d8df745624f4d9fff0e8e76616d00dd1f3d40ec47b86a7fe4d", func := "loop.example/lib-g01185/laws.FnAppendRune", spec := "fnAppendRune", apart := false, narrowed := true }
def FnAppendRuneUptoSaid : Prop := fnAppendRuneUptoRow.holds Try.pinned (OpenSpec.upto fnAppendRuneSpec)

end Rows
end Go.Proofs.Ytmfdpmokphdbiaa
