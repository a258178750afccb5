/-
  No cell of these rows narrows 'for every input' (looked for: loops, veiled, ifaces, maps, wideKeys, modest, calm, conditions, laid).
  DERIVED. THE GIVEN ROWS OF THIS SEAT. 10 by the template 'for every input the law returns true; each argument reads behind the call as it read before'; 0 by the template 'total and deterministic' (their statements: YtmngajddmgigaaaTotals.lean).
  GIVEN WITH THE SEED: the statements are not yours to turn. If you find one false, say at which input.
  Laid BY PROGRAM, IN A SANDBOX (cutbox-rows.mjs): the forced cells as the released guide's own fill.sh prints them over the translation 1f9f5687ba390707… (all of the seat's roots in one cut). By AI agents, Wed Nov 11 2026. No macro, syntax, notation, axiom, sorry.
-/
import Derived.Test.YtmngajddmgigaaaChecked
import GoSem.Claim
import GoSem.ClaimJoined
import GoSem.ClaimMapViews
import Derived.JoinedTies
import Derived.KernelRfl
namespace Go.Proofs.Ytmngajddmgigaaa
/- THE CELL 'sum', in the pinned program and in every row, IS THE sha256 OF THE DUMP (.gsa) THAT YtmngajddmgigaaaProg.lean LOADS. Nothing in Lean hashes anything: it is a label: what it is worth is what the hold of that sum in a sandbox is worth. -/
noncomputable def Try.pinned : Pinned := { name := "ytmngajddmgigaaa", sum := "1f9f5687ba390707c51ee41c3e3f46b5d20aade8d6fac146ae0a5a6dc4e1a445", checked := Try.checked }
namespace Rows
def none {H : Type} : Left H := { results := [], args := [] }

/-- 'laws.FnAppendSurrogate': WHATEVER THE INPUT: true; the input reads as it did. -/
def fnAppendSurrogateSpec : ChangeSpec := { name := "fnAppendSurrogate", fn := fun _ => fun
  | [d1, d2] => { results := [.lit (.bool true)], args := [d1, d2] }
  | _ => none }
def fnAppendSurrogateRow : OpenClaim := { program := "ytmngajddmgigaaa", sum := "1f9f5687ba390707c51ee41c3e3f46b5d20aade8d6fac146ae0a5a6dc4e1a445", func := "loop.example/lib-g01185/laws.FnAppendSurrogate", spec := "fnAppendSurrogate", apart := false }
def FnAppendSurrogateSaid : Prop := fnAppendSurrogateRow.holds Try.pinned (OpenSpec.ofChange fnAppendSurrogateSpec)

/-- ITS FALSE NEIGHBOUR: 'it returns false'. Refute it at one input. -/
def fnAppendSurrogateWrong : ChangeSpec := { name := "fnAppendSurrogate", fn := fun _ => fun
  | [d1, d2] => { results := [.lit (.bool false)], args := [d1, d2] }
  | _ => none }
def FnAppendSurrogateWrongFalsely : Prop := fnAppendSurrogateRow.holds Try.pinned (OpenSpec.ofChange fnAppendSurrogateWrong)

/-- 'laws.FnPrefixFree': WHATEVER THE INPUT: true; the input reads as it did. -/
def fnPrefixFreeSpec : ChangeSpec := { name := "fnPrefixFree", fn := fun _ => fun
  | [d1, d2] => { results := [.lit (.bool true)], args := [d1, d2] }
  | _ => none }
def fnPrefixFreeRow : OpenClaim := { program := "ytmngajddmgigaaa", sum := "1f9f5687ba390707c51ee41c3e3f46b5d20aade8d6fac146ae0a5a6dc4e1a445", func := "loop.example/lib-g01185/laws.FnPrefixFree", spec := "fnPrefixFree", apart := false }
def FnPrefixFreeSaid : Prop := fnPrefixFreeRow.holds Try.pinned (OpenSpec.ofChange fnPrefixFreeSpec)

/-- ITS FALSE NEIGHBOUR: 'it returns false'. Refute it at one input. -/
def fnPrefixFreeWrong : ChangeSpec := { name := "fnPrefixFree", fn := fun _ => fun
  | [d1, d2] => { results := [.lit (.bool false)], args := [d1, d2] }
  | _ => none }
def FnPrefixFreeWrongFalsely : Prop := fnPrefixFreeRow.holds Try.pinned (OpenSpec.ofChange fnPrefixFreeWrong)

/-- 'laws.FnCountBounds': WHATEVER THE INPUT: true; the input reads as it did. -/
def fnCountBoundsSpec : ChangeSpec := { name := "fnCountBounds", fn := fun _ => fun
  | [d] => { results := [.lit (.bool true)], args := [d] }
  | _ => none }
def fnCountBoundsRow : OpenClaim := { program := "ytmngajddmgigaaa", sum := "1f9f5687ba390707c51ee41c3e3f46b5d20aade8d6fac146ae0a5a6dc4e1a445", func := "loop.example/lib-g01185/laws.FnCountBounds", spec := "fnCountBounds", apart := false }
def FnCountBoundsSaid : Prop := fnCountBoundsRow.holds Try.pinned (OpenSpec.ofChange fnCountBoundsSpec)

/-- ITS FALSE NEIGHBOUR: 'it returns false'. Refute it at one input. -/
def fnCountBoundsWrong : ChangeSpec := { name := "fnCountBounds", fn := fun _ => fun
  | [d] => { results := [.lit (.bool false)], args := [d] }
  | _ => none }
def FnCountBoundsWrongFalsely : Prop := fnCountBoundsRow.holds Try.pinned (OpenSpec.ofChange fnCountBoundsWrong)

/-- 'laws.FnStarts': WHATEVER THE INPUT: true; the input reads as it did. -/
def fnStartsSpec : ChangeSpec := { name := "fnStarts", fn := fun _ => fun
  | [d] => { results := [.lit (.bool true)], args := [d] }
  | _ => none }
def fnStartsRow : OpenClaim := { program := "ytmngajddmgigaaa", sum := "1f9f5687ba390707c51ee41c3e3f46b5d20aade8d6fac146ae0a5a6dc4e1a445", func := "loop.example/lib-g01185/laws.FnStarts", spec := "fnStarts", apart := false }
def FnStartsSaid : Prop := fnStartsRow.holds Try.pinned (OpenSpec.ofChange fnStartsSpec)

/-- ITS FALSE NEIGHBOUR: 'it returns false'. Refute it at one input. -/
def fnStartsWrong : ChangeSpec := { name := "fnStarts", fn := fun _ => fun
  | [d] => { results := [.lit (.bool false)], args := [d] }
  | _ => none }
def FnStartsWrongFalsely : Prop := fnStartsRow.holds Try.pinned (OpenSpec.ofChange fnStartsWrong)

/-- 'laws.FnAppendAll': WHATEVER THE INPUT: true; the input reads as it did. -/
def fnAppendAllSpec : ChangeSpec := { name := "fnAppendAll", fn := fun _ => fun
  | [d1, d2] => { results := [.lit (.bool true)], args := [d1, d2] }
  | _ => none }
def fnAppendAllRow : OpenClaim := { program := "ytmngajddmgigaaa", sum := "1f9f5687ba390707c51ee41c3e3f46b5d20aade8d6fac146ae0a5a6dc4e1a445", func := "loop.example/lib-g01185/laws.FnAppendAll", spec := "fnAppendAll", apart := false }
def FnAppendAllSaid : Prop := fnAppendAllRow.holds Try.pinned (OpenSpec.ofChange fnAppendAllSpec)

/-- ITS FALSE NEIGHBOUR: 'it returns false'. Refute it at one input. -/
def fnAppendAllWrong : ChangeSpec := { name := "fnAppendAll", fn := fun _ => fun
  | [d1, d2] => { results := [.lit (.bool false)], args := [d1, d2] }
  | _ => none }
def FnAppendAllWrongFalsely : Prop := fnAppendAllRow.holds Try.pinned (OpenSpec.ofChange fnAppendAllWrong)

/-- 'laws.FnEncodeRest': WHATEVER THE INPUT: true; the input reads as it did. -/
def fnEncodeRestSpec : ChangeSpec := { name := "fnEncodeRest", fn := fun _ => fun
  | [d1, d2, d3] => { results := [.lit (.bool true)], args := [d1, d2, d3] }
  | _ => none }
def fnEncodeRestRow : OpenClaim := { program := "ytmngajddmgigaaa", sum := "1f9f5687ba390707c51ee41c3e3f46b5d20aade8d6fac146ae0a5a6dc4e1a445", func := "loop.example/lib-g01185/laws.FnEncodeRest", spec := "fnEncodeRest", apart := false }
def FnEncodeRestSaid : Prop := fnEncodeRestRow.holds Try.pinned (OpenSpec.ofChange fnEncodeRestSpec)

/-- ITS FALSE NEIGHBOUR: 'it returns false'. Refute it at one input. -/
def fnEncodeRestWrong : ChangeSpec := { name := "fnEncodeRest", fn := fun _ => fun
  | [d1, d2, d3] => { results := [.lit (.bool false)], args := [d1, d2, d3] }
  | _ => none }
def FnEncodeRestWrongFalsely : Prop := fnEncodeRestRow.holds Try.pinned (OpenSpec.ofChange fnEncodeRestWrong)

/-- 'laws.FnEncodeRune': WHATEVER THE INPUT: true; the input reads as it did. -/
def fnEncodeRuneSpec : ChangeSpec := { name := "fnEncodeRune", fn := fun _ => fun
  | [d1, d2, d3] => { results := [.lit (.bool true)], args := [d1, d2, d3] }
  | _ => none }
def fnEncodeRuneRow : OpenClaim := { program := "ytmngajddmgigaaa", sum := "1f9f5687ba390707c51ee41c3e3f46b5d20aade8d6fac146ae0a5a6dc4e1a445", func := "loop.example/lib-g01185/laws.FnEncodeRune", spec := "fnEncodeRune", apart := false }
def FnEncodeRuneSaid : Prop := fnEncodeRuneRow.holds Try.pinned (OpenSpec.ofChange fnEncodeRuneSpec)

/-- ITS FALSE NEIGHBOUR: 'it returns false'. Refute it at one input. -/
def fnEncodeRuneWrong : ChangeSpec := { name := "fnEncodeRune", fn := fun _ => fun
  | [d1, d2, d3] => { results := [.lit (.bool false)], args := [d1, d2, d3] }
  | _ => none }
def FnEncodeRuneWrongFalsely : Prop := fnEncodeRuneRow.holds Try.pinned (OpenSpec.ofChange fnEncodeRuneWrong)

/-- 'laws.FnEncodeSurrogate': WHATEVER THE INPUT: true; the input reads as it did. -/
def fnEncodeSurrogateSpec : ChangeSpec := { name := "fnEncodeSurrogate", fn := fun _ => fun
  | [d1, d2, d3] => { results := [.lit (.bool true)], args := [d1, d2, d3] }
  | _ => none }
def fnEncodeSurrogateRow : OpenClaim := { program := "ytmngajddmgigaaa", sum := "1f9f5687ba390707c51ee41c3e3f46b5d20aade8d6fac146ae0a5a6dc4e1a445", func := "loop.example/lib-g01185/laws.FnEncodeSurrogate", spec := "fnEncodeSurrogate", apart := false }
def FnEncodeSurrogateSaid : Prop := fnEncodeSurrogateRow.holds Try.pinned (OpenSpec.ofChange fnEncodeSurrogateSpec)

/-- ITS FALSE NEIGHBOUR: 'it returns false'. Refute it at one input. -/
def fnEncodeSurrogateWrong : ChangeSpec := { name := "fnEncodeSurrogate", fn := fun _ => fun
  | [d1, d2, d3] => { results := [.lit (.bool false)], args := [d1, d2, d3] }
  | _ => none }
def FnEncodeSurrogateWrongFalsely : Prop := fnEncodeSurrogateRow.holds Try.pinned (OpenSpec.ofChange fnEncodeSurrogateWrong)

/-- 'laws.FnOrder': WHATEVER THE INPUT: true; the input reads as it did. -/
def fnOrderSpec : ChangeSpec := { name := "fnOrder", fn := fun _ => fun
  | [d1, d2] => { results := [.lit (.bool true)], args := [d1, d2] }
  | _ => none }
def fnOrderRow : OpenClaim := { program := "ytmngajddmgigaaa", sum := "1f9f5687ba390707c51ee41c3e3f46b5d20aade8d6fac146ae0a5a6dc4e1a445", func := "loop.example/lib-g01185/laws.FnOrder", spec := "fnOrder", apart := false }
def FnOrderSaid : Prop := fnOrderRow.holds Try.pinned (OpenSpec.ofChange fnOrderSpec)

/-- ITS FALSE NEIGHBOUR: 'it returns false'. Refute it at one input. -/
def fnOrderWrong : ChangeSpec := { name := "fnOrder", fn := fun _ => fun
  | [d1, d2] => { results := [.lit (.bool false)], args := [d1, d2] }
  | _ => none }
def FnOrderWrongFalsely : Prop := fnOrderRow.holds Try.pinned (OpenSpec.ofChange fnOrderWrong)

/-- 'laws.FnRoads': WHATEVER THE INPUT: true; the input reads as it did. -/
def fnRoadsSpec : ChangeSpec := { name := "fnRoads", fn := fun _ => fun
  | [d1, d2, d3] => { results := [.lit (.bool true)], args := [d1, d2, d3] }
  | _ => none }
def fnRoadsRow : OpenClaim := { program := "ytmngajddmgigaaa", sum := "1f9f5687ba390707c51ee41c3e3f46b5d20aade8d6fac146ae0a5a6dc4e1a445", func := "loop.example/lib-g01185/laws.FnRoads", spec := "fnRoads", apart := false }
def FnRoadsSaid : Prop := fnRoadsRow.holds Try.pinned (OpenSpec.ofChange fnRoadsSpec)

/-- ITS FALSE NEIGHBOUR: 'it returns false'. Refute it at one input. -/
def fnRoadsWrong : ChangeSpec := { name := "fnRoads", fn := fun _ => fun
  | [d1, d2, d3] => { results := [.lit (.bool false)], args := [d1, d2, d3] }
  | _ => none }
def FnRoadsWrongFalsely : Prop := fnRoadsRow.holds Try.pinned (OpenSpec.ofChange fnRoadsWrong)

/- THE SECOND FORM. 'bulk': how many values and letters a reading holds, each counted each time it is reached (what is shared counts as often as it is met; a slice's spare places count too). A statement '..UptoSaid' is the law's where the arguments, and the package variables that the reading takes, are together of bulk at most 1048576: NARROWER than '..Said'. Prove '..Said' where nothing that the law and all that it calls make is longer than what came in: it says more and counts as full. Else prove '..UptoSaid'. A law counts once. -/
mutual
def uptoBulk {H : Type} : DataW H → Nat
  | .lit (.string bytes) => bytes.length + 1
  | .lit _ => 1
  | .nil => 1
  | .ptr d => uptoBulk d + 1
  | .slice elems spare => uptoBulkAll elems + uptoBulkAll spare + 1
  | .agg parts => uptoBulkAll parts + 1
  | .iface _ d => uptoBulk d + 1
  | .map entries => uptoBulkEntries entries + 1
  | .held _ => 1
def uptoBulkAll {H : Type} : List (DataW H) → Nat
  | [] => 0
  | d :: r => uptoBulk d + uptoBulkAll r
def uptoBulkEntries {H : Type} : List (Lit × DataW H) → Nat
  | [] => 0
  | x :: r => uptoBulkEntry x + uptoBulkEntries r
def uptoBulkEntry {H : Type} : Lit × DataW H → Nat
  | (.string bytes, d) => bytes.length + uptoBulk d + 1
  | (_, d) => uptoBulk d + 1
 end
def uptoSmall : (H : Type) → List (DataW H) → Bool := fun _ ds => decide (uptoBulkAll ds ≤ 1048576)
def OpenSpec.upto (s : _root_.Go.ChangeSpec) : _root_.Go.OpenSpec := { _root_.Go.OpenSpec.ofChange s with cond := some uptoSmall }

/-- 'laws.FnAppendSurrogate', WHERE WHAT IT READS IS OF BULK AT MOST 1048576: true; the input reads as it did. -/
def fnAppendSurrogateUptoRow : OpenClaim := { program := "ytmngajddmgigaaa", sum := "1f9f5687ba390707c51ee41c3e3f46b5d20aade8d6fac146ae0a5a6dc4e1a445", func := "loop.example/lib-g01185/laws.FnAppendSurrogate", spec := "fnAppendSurrogate", apart := false, narrowed := true }
def FnAppendSurrogateUptoSaid : Prop := fnAppendSurrogateUptoRow.holds Try.pinned (OpenSpec.upto fnAppendSurrogateSpec)

/-- 'laws.FnPrefixFree', WHERE WHAT IT READS IS OF BULK AT MOST 1048576: true; the input reads as it did. -/
def fnPrefixFreeUptoRow : OpenClaim := { program := "ytmngajddmgigaaa", sum := "1f9f5687ba390707c51ee41c3e3f46b5d20aade8d6fac146ae0a5a6dc4e1a445", func := "loop.example/lib-g01185/laws.FnPrefixFree", spec := "fnPrefixFree", apart := false, narrowed := true }
def FnPrefixFreeUptoSaid : Prop := fnPrefixFreeUptoRow.holds Try.pinned (OpenSpec.upto fnPrefixFreeSpec)

/-- 'laws.FnCountBounds', WHERE WHAT IT READS IS OF BULK AT MOST 1048576: true; the input reads as it did. -/
def fnCountBoundsUptoRow : OpenClaim := { program := "ytmngajddmgigaaa", sum := "1f9f5687ba390707c51ee41c3e3f46b5d20aade8d6fac146ae0a5a6dc4e1a445", func := "loop.example/lib-g01185/laws.FnCountBounds", spec := "fnCountBounds", apart := false, narrowed := true }
def FnCountBoundsUptoSaid : Prop := fnCountBoundsUptoRow.holds Try.pinned (OpenSpec.upto fnCountBoundsSpec)

/-- 'laws.FnStarts', WHERE WHAT IT READS IS OF BULK AT MOST 1048576: true; the input reads as it did. -/
def fnStartsUptoRow : OpenClaim := { program := "ytmngajddmgigaaa", sum := "1f9f5687ba390707c51ee41c3e3f46b5d20aade8d6fac146ae0a5a6dc4e1a445", func := "loop.example/lib-g01185/laws.FnStarts", spec := "fnStarts", apart := false, narrowed := true }
def FnStartsUptoSaid : Prop := fnStartsUptoRow.holds Try.pinned (OpenSpec.upto fnStartsSpec)

/-- 'laws.FnAppendAll', WHERE WHAT IT READS IS OF BULK AT MOST 1048576: true; the input reads as it did. -/
def fnAppendAllUptoRow : OpenClaim := { program := "ytmngajddmgigaaa", sum := "1f9f5687ba390707c51ee41c3e3f46b5d20aade8d6fac146ae0a5a6dc4e1a445", func := "loop.example/lib-g01185/laws.FnAppendAll", spec := "fnAppendAll", apart := false, narrowed := true }
def FnAppendAllUptoSaid : Prop := fnAppendAllUptoRow.holds Try.pinned (OpenSpec.upto fnAppendAllSpec)

/-- 'laws.FnEncodeRest', WHERE WHAT IT READS IS OF BULK AT MOST 1048576: true; the input reads as it did. -/
def fnEncodeRestUptoRow : OpenClaim := { program := "ytmngajddmgigaaa", sum := "1f9f5687ba390707c51ee41c3e3f46b5d20aade8d6fac146ae0a5a6dc4e1a445", func := "loop.example/lib-g01185/laws.FnEncodeRest", spec := "fnEncodeRest", apart := false, narrowed := true }
def FnEncodeRestUptoSaid : Prop := fnEncodeRestUptoRow.holds Try.pinned (OpenSpec.upto fnEncodeRestSpec)

/-- 'laws.FnEncodeRune', WHERE WHAT IT READS IS OF BULK AT MOST 1048576: true; the input reads as it did. -/
def fnEncodeRuneUptoRow : OpenClaim := { program := "ytmngajddmgigaaa", sum := "1f9f5687ba390707c51ee41c3e3f46b5d20aade8d6fac146ae0a5a6dc4e1a445", func := "loop.example/lib-g01185/laws.FnEncodeRune", spec := "fnEncodeRune", apart := false, narrowed := true }
def FnEncodeRuneUptoSaid : Prop := fnEncodeRuneUptoRow.holds Try.pinned (OpenSpec.upto fnEncodeRuneSpec)

/-- 'laws.FnEncodeSurrogate', WHERE WHAT IT READS IS OF BULK AT MOST 1048576: true; the input reads as it did. -/
def fnEncodeSurrogateUptoRow : OpenClaim := { program := "ytmngajddmgigaaa", sum := "1f9f5687ba390707c51ee41c3e3f46b5d20aade8d6fac146ae0a5a6dc4e1a445", func := "loop.example/lib-g01185/laws.FnEncodeSurrogate", spec := "fnEncodeSurrogate", apart := false, narrowed := true }
def FnEncodeSurrogateUptoSaid : Prop := fnEncodeSurrogateUptoRow.holds Try.pinned (OpenSpec.upto fnEncodeSurrogateSpec)

/-- 'laws.FnOrder', WHERE WHAT IT READS IS OF BULK AT MOST 1048576: true; the input reads as it did. -/
def fnOrderUptoRow : OpenClaim := { program := "ytmngajddmgigaaa", sum := "1f9f5687ba390707c51ee41c3e3f46b5d20aade8d6fac146ae0a5a6dc4e1a445", func := "loop.example/lib-g01185/laws.FnOrder", spec := "fnOrder", apart := false, narrowed := true }
def FnOrderUptoSaid : Prop := fnOrderUptoRow.holds Try.pinned (OpenSpec.upto fnOrderSpec)

/-- 'laws.FnRoads', WHERE WHAT IT READS IS OF BULK AT MOST 1048576: true; the input reads as it did. -/
def fnRoadsUptoRow : OpenClaim := { program := "ytmngajddmgigaaa", sum := "1f9f5687ba390707c51ee41c3e3f46b5d20aade8d6fac146ae0a5a6dc4e1a445", func := "loop.example/lib-g01185/laws.FnRoads", spec := "fnRoads", apart := false, narrowed := true }
def FnRoadsUptoSaid : Prop := fnRoadsUptoRow.holds Try.pinned (OpenSpec.upto fnRoadsSpec)

end Rows
end Go.Proofs.Ytmngajddmgigaaa
