/-
  No cell of these rows narrows 'for every input' (looked for: loops, veiled, ifaces, maps, wideKeys, modest, calm, conditions, laid).
  DERIVED. THE GIVEN ROWS OF THIS SEAT. 9 by the template 'for every input the law returns true; each argument reads behind the call as it read before'; 0 by the template 'total and deterministic' (their statements: YtlkkhpafidjahaaTotals.lean).
  GIVEN WITH THE SEED: the statements are not yours to turn. If you find one false, say at which input.
  Laid BY PROGRAM, IN A SANDBOX (cutbox-rows.mjs): the forced cells as the released guide's own fill.sh prints them over the translation b15b44958d92f675… (all of the seat's roots in one cut). By AI agents, Wed Nov 11 2026. No macro, syntax, notation, axiom, sorry.
-/
import Derived.Test.YtlkkhpafidjahaaChecked
import GoSem.Claim
import GoSem.ClaimJoined
import GoSem.ClaimMapViews
import Derived.JoinedTies
import Derived.KernelRfl
namespace Go.Proofs.Ytlkkhpafidjahaa
/- THE CELL 'sum', in the pinned program and in every row, IS THE sha256 OF THE DUMP (.gsa) THAT YtlkkhpafidjahaaProg.lean LOADS. Nothing in Lean hashes anything: it is a label: what it is worth is what the hold of that sum in a sandbox is worth. -/
noncomputable def Try.pinned : Pinned := { name := "ytlkkhpafidjahaa", sum := "b15b44958d92f675d11a3137d1d11c70a0a5c4995010f23ad6dea6a37b18296d", checked := Try.checked }
namespace Rows
def none {H : Type} : Left H := { results := [], args := [] }

/-- 'laws.FnOrderTexts': WHATEVER THE INPUT: true; the input reads as it did. -/
def fnOrderTextsSpec : ChangeSpec := { name := "fnOrderTexts", fn := fun _ => fun
  | [d1, d2] => { results := [.lit (.bool true)], args := [d1, d2] }
  | _ => none }
def fnOrderTextsRow : OpenClaim := { program := "ytlkkhpafidjahaa", sum := "b15b44958d92f675d11a3137d1d11c70a0a5c4995010f23ad6dea6a37b18296d", func := "loop.example/lib-g01185/laws.FnOrderTexts", spec := "fnOrderTexts", apart := false }
def FnOrderTextsSaid : Prop := fnOrderTextsRow.holds Try.pinned (OpenSpec.ofChange fnOrderTextsSpec)

/-- ITS FALSE NEIGHBOUR: 'it returns false'. Refute it at one input. -/
def fnOrderTextsWrong : ChangeSpec := { name := "fnOrderTexts", fn := fun _ => fun
  | [d1, d2] => { results := [.lit (.bool false)], args := [d1, d2] }
  | _ => none }
def FnOrderTextsWrongFalsely : Prop := fnOrderTextsRow.holds Try.pinned (OpenSpec.ofChange fnOrderTextsWrong)

/-- 'laws.FnRunesOf': WHATEVER THE INPUT: true; the input reads as it did. -/
def fnRunesOfSpec : ChangeSpec := { name := "fnRunesOf", fn := fun _ => fun
  | [d] => { results := [.lit (.bool true)], args := [d] }
  | _ => none }
def fnRunesOfRow : OpenClaim := { program := "ytlkkhpafidjahaa", sum := "b15b44958d92f675d11a3137d1d11c70a0a5c4995010f23ad6dea6a37b18296d", func := "loop.example/lib-g01185/laws.FnRunesOf", spec := "fnRunesOf", apart := false }
def FnRunesOfSaid : Prop := fnRunesOfRow.holds Try.pinned (OpenSpec.ofChange fnRunesOfSpec)

/-- ITS FALSE NEIGHBOUR: 'it returns false'. Refute it at one input. -/
def fnRunesOfWrong : ChangeSpec := { name := "fnRunesOf", fn := fun _ => fun
  | [d] => { results := [.lit (.bool false)], args := [d] }
  | _ => none }
def FnRunesOfWrongFalsely : Prop := fnRunesOfRow.holds Try.pinned (OpenSpec.ofChange fnRunesOfWrong)

/-- 'laws.FnRunesOfInvalid': WHATEVER THE INPUT: true; the input reads as it did. -/
def fnRunesOfInvalidSpec : ChangeSpec := { name := "fnRunesOfInvalid", fn := fun _ => fun
  | [d] => { results := [.lit (.bool true)], args := [d] }
  | _ => none }
def fnRunesOfInvalidRow : OpenClaim := { program := "ytlkkhpafidjahaa", sum := "b15b44958d92f675d11a3137d1d11c70a0a5c4995010f23ad6dea6a37b18296d", func := "loop.example/lib-g01185/laws.FnRunesOfInvalid", spec := "fnRunesOfInvalid", apart := false }
def FnRunesOfInvalidSaid : Prop := fnRunesOfInvalidRow.holds Try.pinned (OpenSpec.ofChange fnRunesOfInvalidSpec)

/-- ITS FALSE NEIGHBOUR: 'it returns false'. Refute it at one input. -/
def fnRunesOfInvalidWrong : ChangeSpec := { name := "fnRunesOfInvalid", fn := fun _ => fun
  | [d] => { results := [.lit (.bool false)], args := [d] }
  | _ => none }
def FnRunesOfInvalidWrongFalsely : Prop := fnRunesOfInvalidRow.holds Try.pinned (OpenSpec.ofChange fnRunesOfInvalidWrong)

/-- 'laws.FnRunesOfJoin': WHATEVER THE INPUT: true; the input reads as it did. -/
def fnRunesOfJoinSpec : ChangeSpec := { name := "fnRunesOfJoin", fn := fun _ => fun
  | [d1, d2] => { results := [.lit (.bool true)], args := [d1, d2] }
  | _ => none }
def fnRunesOfJoinRow : OpenClaim := { program := "ytlkkhpafidjahaa", sum := "b15b44958d92f675d11a3137d1d11c70a0a5c4995010f23ad6dea6a37b18296d", func := "loop.example/lib-g01185/laws.FnRunesOfJoin", spec := "fnRunesOfJoin", apart := false }
def FnRunesOfJoinSaid : Prop := fnRunesOfJoinRow.holds Try.pinned (OpenSpec.ofChange fnRunesOfJoinSpec)

/-- ITS FALSE NEIGHBOUR: 'it returns false'. Refute it at one input. -/
def fnRunesOfJoinWrong : ChangeSpec := { name := "fnRunesOfJoin", fn := fun _ => fun
  | [d1, d2] => { results := [.lit (.bool false)], args := [d1, d2] }
  | _ => none }
def FnRunesOfJoinWrongFalsely : Prop := fnRunesOfJoinRow.holds Try.pinned (OpenSpec.ofChange fnRunesOfJoinWrong)

/-- 'laws.FnStringOfJoin': WHATEVER THE INPUT: true; the input reads as it did. -/
def fnStringOfJoinSpec : ChangeSpec := { name := "fnStringOfJoin", fn := fun _ => fun
  | [d1, d2] => { results := [.lit (.bool true)], args := [d1, d2] }
  | _ => none }
def fnStringOfJoinRow : OpenClaim := { program := "ytlkkhpafidjahaa", sum := "b15b44958d92f675d11a3137d1d11c70a0a5c4995010f23ad6dea6a37b18296d", func := "loop.example/lib-g01185/laws.FnStringOfJoin", spec := "fnStringOfJoin", apart := false }
def FnStringOfJoinSaid : Prop := fnStringOfJoinRow.holds Try.pinned (OpenSpec.ofChange fnStringOfJoinSpec)

/-- ITS FALSE NEIGHBOUR: 'it returns false'. Refute it at one input. -/
def fnStringOfJoinWrong : ChangeSpec := { name := "fnStringOfJoin", fn := fun _ => fun
  | [d1, d2] => { results := [.lit (.bool false)], args := [d1, d2] }
  | _ => none }
def FnStringOfJoinWrongFalsely : Prop := fnStringOfJoinRow.holds Try.pinned (OpenSpec.ofChange fnStringOfJoinWrong)

/-- 'laws.FnStringOfRune': WHATEVER THE INPUT: true; the input reads as it did. -/
def fnStringOfRuneSpec : ChangeSpec := { name := "fnStringOfRune", fn := fun _ => fun
  | [d] => { results := [.lit (.bool true)], args := [d] }
  | _ => none }
def fnStringOfRuneRow : OpenClaim := { program := "ytlkkhpafidjahaa", sum := "b15b44958d92f675d11a3137d1d11c70a0a5c4995010f23ad6dea6a37b18296d", func := "loop.example/lib-g01185/laws.FnStringOfRune", spec := "fnStringOfRune", apart := false }
def FnStringOfRuneSaid : Prop := fnStringOfRuneRow.holds Try.pinned (OpenSpec.ofChange fnStringOfRuneSpec)

/-- ITS FALSE NEIGHBOUR: 'it returns false'. Refute it at one input. -/
def fnStringOfRuneWrong : ChangeSpec := { name := "fnStringOfRune", fn := fun _ => fun
  | [d] => { results := [.lit (.bool false)], args := [d] }
  | _ => none }
def FnStringOfRuneWrongFalsely : Prop := fnStringOfRuneRow.holds Try.pinned (OpenSpec.ofChange fnStringOfRuneWrong)

/-- 'laws.FnExactRuneStart': WHATEVER THE INPUT: true; the input reads as it did. -/
def fnExactRuneStartSpec : ChangeSpec := { name := "fnExactRuneStart", fn := fun _ => fun
  | [d] => { results := [.lit (.bool true)], args := [d] }
  | _ => none }
def fnExactRuneStartRow : OpenClaim := { program := "ytlkkhpafidjahaa", sum := "b15b44958d92f675d11a3137d1d11c70a0a5c4995010f23ad6dea6a37b18296d", func := "loop.example/lib-g01185/laws.FnExactRuneStart", spec := "fnExactRuneStart", apart := false }
def FnExactRuneStartSaid : Prop := fnExactRuneStartRow.holds Try.pinned (OpenSpec.ofChange fnExactRuneStartSpec)

/-- ITS FALSE NEIGHBOUR: 'it returns false'. Refute it at one input. -/
def fnExactRuneStartWrong : ChangeSpec := { name := "fnExactRuneStart", fn := fun _ => fun
  | [d] => { results := [.lit (.bool false)], args := [d] }
  | _ => none }
def FnExactRuneStartWrongFalsely : Prop := fnExactRuneStartRow.holds Try.pinned (OpenSpec.ofChange fnExactRuneStartWrong)

/-- 'laws.FnStringOf': WHATEVER THE INPUT: true; the input reads as it did. -/
def fnStringOfSpec : ChangeSpec := { name := "fnStringOf", fn := fun _ => fun
  | [d] => { results := [.lit (.bool true)], args := [d] }
  | _ => none }
def fnStringOfRow : OpenClaim := { program := "ytlkkhpafidjahaa", sum := "b15b44958d92f675d11a3137d1d11c70a0a5c4995010f23ad6dea6a37b18296d", func := "loop.example/lib-g01185/laws.FnStringOf", spec := "fnStringOf", apart := false }
def FnStringOfSaid : Prop := fnStringOfRow.holds Try.pinned (OpenSpec.ofChange fnStringOfSpec)

/-- ITS FALSE NEIGHBOUR: 'it returns false'. Refute it at one input. -/
def fnStringOfWrong : ChangeSpec := { name := "fnStringOf", fn := fun _ => fun
  | [d] => { results := [.lit (.bool false)], args := [d] }
  | _ => none }
def FnStringOfWrongFalsely : Prop := fnStringOfRow.holds Try.pinned (OpenSpec.ofChange fnStringOfWrong)

/-- 'laws.FnStringOfSurrogate': WHATEVER THE INPUT: true; the input reads as it did. -/
def fnStringOfSurrogateSpec : ChangeSpec := { name := "fnStringOfSurrogate", fn := fun _ => fun
  | [d] => { results := [.lit (.bool true)], args := [d] }
  | _ => none }
def fnStringOfSurrogateRow : OpenClaim := { program := "ytlkkhpafidjahaa", sum := "b15b44958d92f675d11a3137d1d11c70a0a5c4995010f23ad6dea6a37b18296d", func := "loop.example/lib-g01185/laws.FnStringOfSurrogate", spec := "fnStringOfSurrogate", apart := false }
def FnStringOfSurrogateSaid : Prop := fnStringOfSurrogateRow.holds Try.pinned (OpenSpec.ofChange fnStringOfSurrogateSpec)

/-- ITS FALSE NEIGHBOUR: 'it returns false'. Refute it at one input. -/
def fnStringOfSurrogateWrong : ChangeSpec := { name := "fnStringOfSurrogate", fn := fun _ => fun
  | [d] => { results := [.lit (.bool false)], args := [d] }
  | _ => none }
def FnStringOfSurrogateWrongFalsely : Prop := fnStringOfSurrogateRow.holds Try.pinned (OpenSpec.ofChange fnStringOfSurrogateWrong)

/- THE SECOND FORM. 'bulk': how many values and letters a reading holds, each counted each time it is reached (what is shared counts as often as it is met; a slice's spare places count too). A statement '..UptoSaid' is the law's where the arguments, and the package variables that the reading takes, are together of bulk at most 1048576: NARROWER than '..Said'. Prove '..Said' where nothing that the law and all that it calls make is longer than what came in: it says more and counts as full. Else prove '..UptoSaid'. A law counts once. -/
mutual
def uptoBulk {H : Type} : DataW H → Nat
  | .lit (.string bytes) => bytes.length + 1
  | .lit _ => 1
  | .nil => 1
  | .ptr d => uptoBulk d + 1
  | .slice elems spare => uptoBulkAll elems + uptoBulkAll spare + 1
  | .agg parts => uptoBulkAll parts + 1
  | .iface _ d => uptoBulk d + 1
  | .map entries => uptoBulkEntries entries + 1
  | .held _ => 1
def uptoBulkAll {H : Type} : List (DataW H) → Nat
  | [] => 0
  | d :: r => uptoBulk d + uptoBulkAll r
def uptoBulkEntries {H : Type} : List (Lit × DataW H) → Nat
  | [] => 0
  | x :: r => uptoBulkEntry x + uptoBulkEntries r
def uptoBulkEntry {H : Type} : Lit × DataW H → Nat
  | (.string bytes, d) => bytes.length + uptoBulk d + 1
  | (_, d) => uptoBulk d + 1
 end
def uptoSmall : (H : Type) → List (DataW H) → Bool := fun _ ds => decide (uptoBulkAll ds ≤ 1048576)
def OpenSpec.upto (s : _root_.Go.ChangeSpec) : _root_.Go.OpenSpec := { _root_.Go.OpenSpec.ofChange s with cond := some uptoSmall }

/-- 'laws.FnOrderTexts', WHERE WHAT IT READS IS OF BULK AT MOST 1048576: true; the input reads as it did. -/
def fnOrderTextsUptoRow : OpenClaim := { program := "ytlkkhpafidjahaa", sum := "b15b44958d92f675d11a3137d1d11c70a0a5c4995010f23ad6dea6a37b18296d", func := "loop.example/lib-g01185/laws.FnOrderTexts", spec := "fnOrderTexts", apart := false, narrowed := true }
def FnOrderTextsUptoSaid : Prop := fnOrderTextsUptoRow.holds Try.pinned (OpenSpec.upto fnOrderTextsSpec)

/-- 'laws.FnRunesOf', WHERE WHAT IT READS IS OF BULK AT MOST 1048576: true; the input reads as it did. -/
def fnRunesOfUptoRow : OpenClaim := { program := "ytlkkhpafidjahaa", sum := "b15b44958d92f675d11a3137d1d11c70a0a5c4995010f23ad6dea6a37b18296d", func := "loop.example/lib-g01185/laws.FnRunesOf", spec := "fnRunesOf", apart := false, narrowed := true }
def FnRunesOfUptoSaid : Prop := fnRunesOfUptoRow.holds Try.pinned (OpenSpec.upto fnRunesOfSpec)

/-- 'laws.FnRunesOfInvalid', WHERE WHAT IT READS IS OF BULK AT MOST 1048576: true; the input reads as it did. -/
def fnRunesOfInvalidUptoRow : OpenClaim := { program := "ytlkkhpafidjahaa", sum := "b15b44958d92f675d11a3137d1d11c70a0a5c4995010f23ad6dea6a37b18296d", func := "loop.example/lib-g01185/laws.FnRunesOfInvalid", spec := "fnRunesOfInvalid", apart := false, narrowed := true }
def FnRunesOfInvalidUptoSaid : Prop := fnRunesOfInvalidUptoRow.holds Try.pinned (OpenSpec.upto fnRunesOfInvalidSpec)

/-- 'laws.FnRunesOfJoin', WHERE WHAT IT READS IS OF BULK AT MOST 1048576: true; the input reads as it did. -/
def fnRunesOfJoinUptoRow : OpenClaim := { program := "ytlkkhpafidjahaa", sum := "b15b44958d92f675d11a3137d1d11c70a0a5c4995010f23ad6dea6a37b18296d", func := "loop.example/lib-g01185/laws.FnRunesOfJoin", spec := "fnRunesOfJoin", apart := false, narrowed := true }
def FnRunesOfJoinUptoSaid : Prop := fnRunesOfJoinUptoRow.holds Try.pinned (OpenSpec.upto fnRunesOfJoinSpec)

/-- 'laws.FnStringOfJoin', WHERE WHAT IT READS IS OF BULK AT MOST 1048576: true; the input reads as it did. -/
def fnStringOfJoinUptoRow : OpenClaim := { program := "ytlkkhpafidjahaa", sum := "b15b44958d92f675d11a3137d1d11c70a0a5c4995010f23ad6dea6a37b18296d", func := "loop.example/lib-g01185/laws.FnStringOfJoin", spec := "fnStringOfJoin", apart := false, narrowed := true }
def FnStringOfJoinUptoSaid : Prop := fnStringOfJoinUptoRow.holds Try.pinned (OpenSpec.upto fnStringOfJoinSpec)

/-- 'laws.FnStringOfRune', WHERE WHAT IT READS IS OF BULK AT MOST 1048576: true; the input reads as it did. -/
def fnStringOfRuneUptoRow : OpenClaim := { program := "ytlkkhpafidjahaa", sum := "b15b44958d92f675d11a3137d1d11c70a0a5c4995010f23ad6dea6a37b18296d", func := "loop.example/lib-g01185/laws.FnStringOfRune", spec := "fnStringOfRune", apart := false, narrowed := true }
def FnStringOfRuneUptoSaid : Prop := fnStringOfRuneUptoRow.holds Try.pinned (OpenSpec.upto fnStringOfRuneSpec)

/-- 'laws.FnExactRuneStart', WHERE WHAT IT READS IS OF BULK AT MOST 1048576: true; the input reads as it did. -/
def fnExactRuneStartUptoRow : OpenClaim := { program := "ytlkkhpafidjahaa", sum := "b15b44958d92f675d11a3137d1d11c70a0a5c4995010f23ad6dea6a37b18296d", func := "loop.example/lib-g01185/laws.FnExactRuneStart", spec := "fnExactRuneStart", apart := false, narrowed := true }
def FnExactRuneStartUptoSaid : Prop := fnExactRuneStartUptoRow.holds Try.pinned (OpenSpec.upto fnExactRuneStartSpec)

/-- 'laws.FnStringOf', WHERE WHAT IT READS IS OF BULK AT MOST 1048576: true; the input reads as it did. -/
def fnStringOfUptoRow : OpenClaim := { program := "ytlkkhpafidjahaa", sum := "b15b44958d92f675d11a3137d1d11c70a0a5c4995010f23ad6dea6a37b18296d", func := "loop.example/lib-g01185/laws.FnStringOf", spec := "fnStringOf", apart := false, narrowed := true }
def FnStringOfUptoSaid : Prop := fnStringOfUptoRow.holds Try.pinned (OpenSpec.upto fnStringOfSpec)

/-- 'laws.FnStringOfSurrogate', WHERE WHAT IT READS IS OF BULK AT MOST 1048576: true; the input reads as it did. -/
def fnStringOfSurrogateUptoRow : OpenClaim := { program := "ytlkkhpafidjahaa", sum := "b15b44958d92f675d11a3137d1d11c70a0a5c4995010f23ad6dea6a37b18296d", func := "loop.example/lib-g01185/laws.FnStringOfSurrogate", spec := "fnStringOfSurrogate", apart := false, narrowed := true }
def FnStringOfSurrogateUptoSaid : Prop := fnStringOfSurrogateUptoRow.holds Try.pinned (OpenSpec.upto fnStringOfSurrogateSpec)

end Rows
end Go.Proofs.Ytlkkhpafidjahaa
