/-
  DERIVED. GIVEN WITH THE SEED: THE CARDS: each row of YtdhofjhmbdeibaaDoorRows.lean that lists a variable, with what it lists TIED to the program's text (the seventh form; the later family's looks); each row that meets fmt, with fmt's text TOLD by the authors' own Lean function (tested against real Go, not proved from fmt's source: count such statements apart). THE CARD IS WHAT COUNTS. Prove the row's statement (the work); the ties are given (YtdhofjhmbdeibaaDoorTie.lean); close each card by the builder's one call (the guide's Derived/Test/ToyasCard.lean, 'card_holds'). Laid BY PROGRAM, IN A SANDBOX (cutbox-door.mjs). By AI agents, Wed Nov 11 2026. No macro, syntax, notation, axiom, sorry.
-/
import Derived.Test.YtdhofjhmbdeibaaDoorRows
import GoSem.ClaimSeven
namespace Go.Proofs.YtdhofjhmbdeibaaDoor
namespace Rows

/-- THE TIED CARD OF 'laws.FnRangeDecode'. -/
def fnRangeDecodeCard : Claim7 := { stood := { row := fnRangeDecodeRow, standIns := [], harness := (true, "9e1903501a30391ddbda1873c776db19267fc56ff30c4aa033af58fe3076314b"), looks := false }, kinds := [], alts := [], laidByText := true, laidKinds := [.data, .pinned], laidTests := true, laidLooks := .later }
def FnRangeDecodeCardSaid : Prop := Claim7.holds Tryd.pinned (.plain (OpenSpec.ofChange fnRangeDecodeSpec)) fnRangeDecodeCard

/-- THE TIED CARD OF 'laws.FnCuts'. -/
def fnCutsCard : Claim7 := { stood := { row := fnCutsRow, standIns := [], harness := (true, "9e1903501a30391ddbda1873c776db19267fc56ff30c4aa033af58fe3076314b"), looks := false }, kinds := [], alts := [], laidByText := true, laidKinds := [.data, .pinned], laidTests := true, laidLooks := .later }
def FnCutsCardSaid : Prop := Claim7.holds Tryd.pinned (.plain (OpenSpec.ofChange fnCutsSpec)) fnCutsCard

/-- THE TIED CARD OF 'laws.FnFullIsFinal'. -/
def fnFullIsFinalCard : Claim7 := { stood := { row := fnFullIsFinalRow, standIns := [], harness := (true, "9e1903501a30391ddbda1873c776db19267fc56ff30c4aa033af58fe3076314b"), looks := false }, kinds := [], alts := [], laidByText := true, laidKinds := [.data, .pinned], laidTests := true, laidLooks := .later }
def FnFullIsFinalCardSaid : Prop := Claim7.holds Tryd.pinned (.plain (OpenSpec.ofChange fnFullIsFinalSpec)) fnFullIsFinalCard

/-- THE TIED CARD OF 'laws.FnStreamed'. -/
def fnStreamedCard : Claim7 := { stood := { row := fnStreamedRow, standIns := [], harness := (true, "9e1903501a30391ddbda1873c776db19267fc56ff30c4aa033af58fe3076314b"), looks := false }, kinds := [], alts := [], laidByText := true, laidKinds := [.data, .pinned], laidTests := true, laidLooks := .later }
def FnStreamedCardSaid : Prop := Claim7.holds Tryd.pinned (.plain (OpenSpec.ofChange fnStreamedSpec)) fnStreamedCard

/-- THE TIED CARD OF 'laws.FnExactDecodeLastRuneInString'. -/
def fnExactDecodeLastRuneInStringCard : Claim7 := { stood := { row := fnExactDecodeLastRuneInStringRow, standIns := [], harness := (true, "9e1903501a30391ddbda1873c776db19267fc56ff30c4aa033af58fe3076314b"), looks := false }, kinds := [], alts := [], laidByText := true, laidKinds := [.data, .pinned], laidTests := true, laidLooks := .later }
def FnExactDecodeLastRuneInStringCardSaid : Prop := Claim7.holds Tryd.pinned (.plain (OpenSpec.ofChange fnExactDecodeLastRuneInStringSpec)) fnExactDecodeLastRuneInStringCard

/-- THE TIED CARD OF 'laws.FnFound'. -/
def fnFoundCard : Claim7 := { stood := { row := fnFoundRow, standIns := [], harness := (true, "9e1903501a30391ddbda1873c776db19267fc56ff30c4aa033af58fe3076314b"), looks := false }, kinds := [], alts := [], laidByText := true, laidKinds := [.data, .pinned], laidTests := true, laidLooks := .later }
def FnFoundCardSaid : Prop := Claim7.holds Tryd.pinned (.plain (OpenSpec.ofChange fnFoundSpec)) fnFoundCard

/-- THE TIED CARD OF 'laws.FnSync'. -/
def fnSyncCard : Claim7 := { stood := { row := fnSyncRow, standIns := [], harness := (true, "9e1903501a30391ddbda1873c776db19267fc56ff30c4aa033af58fe3076314b"), looks := false }, kinds := [], alts := [], laidByText := true, laidKinds := [.data, .pinned], laidTests := true, laidLooks := .later }
def FnSyncCardSaid : Prop := Claim7.holds Tryd.pinned (.plain (OpenSpec.ofChange fnSyncSpec)) fnSyncCard

/-- THE TIED CARD OF 'laws.FnBackwards'. -/
def fnBackwardsCard : Claim7 := { stood := { row := fnBackwardsRow, standIns := [], harness := (true, "9e1903501a30391ddbda1873c776db19267fc56ff30c4aa033af58fe3076314b"), looks := false }, kinds := [], alts := [], laidByText := true, laidKinds := [.data, .pinned], laidTests := true, laidLooks := .later }
def FnBackwardsCardSaid : Prop := Claim7.holds Tryd.pinned (.plain (OpenSpec.ofChange fnBackwardsSpec)) fnBackwardsCard

/-- THE TIED CARD OF 'laws.FnExactDecodeLastRune'. -/
def fnExactDecodeLastRuneCard : Claim7 := { stood := { row := fnExactDecodeLastRuneRow, standIns := [], harness := (true, "9e1903501a30391ddbda1873c776db19267fc56ff30c4aa033af58fe3076314b"), looks := false }, kinds := [], alts := [], laidByText := true, laidKinds := [.data, .pinned], laidTests := true, laidLooks := .later }
def FnExactDecodeLastRuneCardSaid : Prop := Claim7.holds Tryd.pinned (.plain (OpenSpec.ofChange fnExactDecodeLastRuneSpec)) fnExactDecodeLastRuneCard

/-- THE TIED CARD OF 'laws.FnBothWays'. -/
def fnBothWaysCard : Claim7 := { stood := { row := fnBothWaysRow, standIns := [], harness := (true, "9e1903501a30391ddbda1873c776db19267fc56ff30c4aa033af58fe3076314b"), looks := false }, kinds := [], alts := [], laidByText := true, laidKinds := [.data, .pinned], laidTests := true, laidLooks := .later }
def FnBothWaysCardSaid : Prop := Claim7.holds Tryd.pinned (.plain (OpenSpec.ofChange fnBothWaysSpec)) fnBothWaysCard

/-- THE TIED CARD OF 'laws.FnFour'. -/
def fnFourCard : Claim7 := { stood := { row := fnFourRow, standIns := [], harness := (true, "9e1903501a30391ddbda1873c776db19267fc56ff30c4aa033af58fe3076314b"), looks := false }, kinds := [], alts := [], laidByText := true, laidKinds := [.data, .pinned], laidTests := true, laidLooks := .later }
def FnFourCardSaid : Prop := Claim7.holds Tryd.pinned (.plain (OpenSpec.ofChange fnFourSpec)) fnFourCard

/-- THE TIED CARD OF 'laws.FnFurther'. -/
def fnFurtherCard : Claim7 := { stood := { row := fnFurtherRow, standIns := [], harness := (true, "9e1903501a30391ddbda1873c776db19267fc56ff30c4aa033af58fe3076314b"), looks := false }, kinds := [], alts := [], laidByText := true, laidKinds := [.data, .pinned], laidTests := true, laidLooks := .later }
def FnFurtherCardSaid : Prop := Claim7.holds Tryd.pinned (.plain (OpenSpec.ofChange fnFurtherSpec)) fnFurtherCard

/-- THE SECOND FORM's CARD OF 'laws.FnRangeDecode'. -/
def fnRangeDecodeUptoCard : Claim7 := { stood := { row := fnRangeDecodeUptoRow, standIns := [], harness := (true, "9e1903501a30391ddbda1873c776db19267fc56ff30c4aa033af58fe3076314b"), looks := false }, kinds := [], alts := [], laidByText := true, laidKinds := [.data, .pinned], laidTests := true, laidLooks := .later }
def FnRangeDecodeUptoCardSaid : Prop := Claim7.holds Tryd.pinned (.plain (OpenSpec.upto fnRangeDecodeSpec)) fnRangeDecodeUptoCard

/-- THE SECOND FORM's CARD OF 'laws.FnCuts'. -/
def fnCutsUptoCard : Claim7 := { stood := { row := fnCutsUptoRow, standIns := [], harness := (true, "9e1903501a30391ddbda1873c776db19267fc56ff30c4aa033af58fe3076314b"), looks := false }, kinds := [], alts := [], laidByText := true, laidKinds := [.data, .pinned], laidTests := true, laidLooks := .later }
def FnCutsUptoCardSaid : Prop := Claim7.holds Tryd.pinned (.plain (OpenSpec.upto fnCutsSpec)) fnCutsUptoCard

/-- THE SECOND FORM's CARD OF 'laws.FnFullIsFinal'. -/
def fnFullIsFinalUptoCard : Claim7 := { stood := { row := fnFullIsFinalUptoRow, standIns := [], harness := (true, "9e1903501a30391ddbda1873c776db19267fc56ff30c4aa033af58fe3076314b"), looks := false }, kinds := [], alts := [], laidByText := true, laidKinds := [.data, .pinned], laidTests := true, laidLooks := .later }
def FnFullIsFinalUptoCardSaid : Prop := Claim7.holds Tryd.pinned (.plain (OpenSpec.upto fnFullIsFinalSpec)) fnFullIsFinalUptoCard

/-- THE SECOND FORM's CARD OF 'laws.FnStreamed'. -/
def fnStreamedUptoCard : Claim7 := { stood := { row := fnStreamedUptoRow, standIns := [], harness := (true, "9e1903501a30391ddbda1873c776db19267fc56ff30c4aa033af58fe3076314b"), looks := false }, kinds := [], alts := [], laidByText := true, laidKinds := [.data, .pinned], laidTests := true, laidLooks := .later }
def FnStreamedUptoCardSaid : Prop := Claim7.holds Tryd.pinned (.plain (OpenSpec.upto fnStreamedSpec)) fnStreamedUptoCard

/-- THE SECOND FORM's CARD OF 'laws.FnExactDecodeLastRuneInString'. -/
def fnExactDecodeLastRuneInStringUptoCard : Claim7 := { stood := { row := fnExactDecodeLastRuneInStringUptoRow, standIns := [], harness := (true, "9e1903501a30391ddbda1873c776db19267fc56ff30c4aa033af58fe3076314b"), looks := false }, kinds := [], alts := [], laidByText := true, laidKinds := [.data, .pinned], laidTests := true, laidLooks := .later }
def FnExactDecodeLastRuneInStringUptoCardSaid : Prop := Claim7.holds Tryd.pinned (.plain (OpenSpec.upto fnExactDecodeLastRuneInStringSpec)) fnExactDecodeLastRuneInStringUptoCard

/-- THE SECOND FORM's CARD OF 'laws.FnFound'. -/
def fnFoundUptoCard : Claim7 := { stood := { row := fnFoundUptoRow, standIns := [], harness := (true, "9e1903501a30391ddbda1873c776db19267fc56ff30c4aa033af58fe3076314b"), looks := false }, kinds := [], alts := [], laidByText := true, laidKinds := [.data, .pinned], laidTests := true, laidLooks := .later }
def FnFoundUptoCardSaid : Prop := Claim7.holds Tryd.pinned (.plain (OpenSpec.upto fnFoundSpec)) fnFoundUptoCard

/-- THE SECOND FORM's CARD OF 'laws.FnSync'. -/
def fnSyncUptoCard : Claim7 := { stood := { row := fnSyncUptoRow, standIns := [], harness := (true, "9e1903501a30391ddbda1873c776db19267fc56ff30c4aa033af58fe3076314b"), looks := false }, kinds := [], alts := [], laidByText := true, laidKinds := [.data, .pinned], laidTests := true, laidLooks := .later }
def FnSyncUptoCardSaid : Prop := Claim7.holds Tryd.pinned (.plain (OpenSpec.upto fnSyncSpec)) fnSyncUptoCard

/-- THE SECOND FORM's CARD OF 'laws.FnBackwards'. -/
def fnBackwardsUptoCard : Claim7 := { stood := { row := fnBackwardsUptoRow, standIns := [], harness := (true, "9e1903501a30391ddbda1873c776db19267fc56ff30c4aa033af58fe3076314b"), looks := false }, kinds := [], alts := [], laidByText := true, laidKinds := [.data, .pinned], laidTests := true, laidLooks := .later }
def FnBackwardsUptoCardSaid : Prop := Claim7.holds Tryd.pinned (.plain (OpenSpec.upto fnBackwardsSpec)) fnBackwardsUptoCard

/-- THE SECOND FORM's CARD OF 'laws.FnExactDecodeLastRune'. -/
def fnExactDecodeLastRuneUptoCard : Claim7 := { stood := { row := fnExactDecodeLastRuneUptoRow, standIns := [], harness := (true, "9e1903501a30391ddbda1873c776db19267fc56ff30c4aa033af58fe3076314b"), looks := false }, kinds := [], alts := [], laidByText := true, laidKinds := [.data, .pinned], laidTests := true, laidLooks := .later }
def FnExactDecodeLastRuneUptoCardSaid : Prop := Claim7.holds Tryd.pinned (.plain (OpenSpec.upto fnExactDecodeLastRuneSpec)) fnExactDecodeLastRuneUptoCard

/-- THE SECOND FORM's CARD OF 'laws.FnBothWays'. -/
def fnBothWaysUptoCard : Claim7 := { stood := { row := fnBothWaysUptoRow, standIns := [], harness := (true, "9e1903501a30391ddbda1873c776db19267fc56ff30c4aa033af58fe3076314b"), looks := false }, kinds := [], alts := [], laidByText := true, laidKinds := [.data, .pinned], laidTests := true, laidLooks := .later }
def FnBothWaysUptoCardSaid : Prop := Claim7.holds Tryd.pinned (.plain (OpenSpec.upto fnBothWaysSpec)) fnBothWaysUptoCard

/-- THE SECOND FORM's CARD OF 'laws.FnFour'. -/
def fnFourUptoCard : Claim7 := { stood := { row := fnFourUptoRow, standIns := [], harness := (true, "9e1903501a30391ddbda1873c776db19267fc56ff30c4aa033af58fe3076314b"), looks := false }, kinds := [], alts := [], laidByText := true, laidKinds := [.data, .pinned], laidTests := true, laidLooks := .later }
def FnFourUptoCardSaid : Prop := Claim7.holds Tryd.pinned (.plain (OpenSpec.upto fnFourSpec)) fnFourUptoCard

/-- THE SECOND FORM's CARD OF 'laws.FnFurther'. -/
def fnFurtherUptoCard : Claim7 := { stood := { row := fnFurtherUptoRow, standIns := [], harness := (true, "9e1903501a30391ddbda1873c776db19267fc56ff30c4aa033af58fe3076314b"), looks := false }, kinds := [], alts := [], laidByText := true, laidKinds := [.data, .pinned], laidTests := true, laidLooks := .later }
def FnFurtherUptoCardSaid : Prop := Claim7.holds Tryd.pinned (.plain (OpenSpec.upto fnFurtherSpec)) fnFurtherUptoCard
end Rows
end Go.Proofs.YtdhofjhmbdeibaaDoor
