/-
  DERIVED. GIVEN WITH THE SEED: THE CARDS: each row of YtgjdlcnmfpbbhaaDoorRows.lean that lists a variable, with what it lists TIED to the program's text (the seventh form; the later family's looks); each row that meets fmt, with fmt's text TOLD by the authors' own Lean function (tested against real Go, not proved from fmt's source: count such statements apart). THE CARD IS WHAT COUNTS. Prove the row's statement (the work); the ties are given (YtgjdlcnmfpbbhaaDoorTie.lean); close each card by the builder's one call (the guide's Derived/Test/ToyasCard.lean, 'card_holds'). Laid BY PROGRAM, IN A SANDBOX (cutbox-door.mjs). By AI agents, Wed Nov 11 2026. No macro, syntax, notation, axiom, sorry.
-/
import Derived.Test.YtgjdlcnmfpbbhaaDoorRows
import GoSem.ClaimSeven
namespace Go.Proofs.YtgjdlcnmfpbbhaaDoor
namespace Rows

/-- THE TIED CARD OF 'laws.FnStrings'. -/
def fnStringsCard : Claim7 := { stood := { row := fnStringsRow, standIns := [], harness := (true, "742811b65ef5317c3b7751e089742dd109bd4447ca0431d72f3d95527e525de3"), looks := false }, kinds := [], alts := [], laidByText := true, laidKinds := [.data, .pinned], laidTests := true, laidLooks := .later }
def FnStringsCardSaid : Prop := Claim7.holds Tryd.pinned (.plain (OpenSpec.ofChange fnStringsSpec)) fnStringsCard

/-- THE TIED CARD OF 'laws.FnFullInvalid'. -/
def fnFullInvalidCard : Claim7 := { stood := { row := fnFullInvalidRow, standIns := [], harness := (true, "742811b65ef5317c3b7751e089742dd109bd4447ca0431d72f3d95527e525de3"), looks := false }, kinds := [], alts := [], laidByText := true, laidKinds := [.data, .pinned], laidTests := true, laidLooks := .later }
def FnFullInvalidCardSaid : Prop := Claim7.holds Tryd.pinned (.plain (OpenSpec.ofChange fnFullInvalidSpec)) fnFullInvalidCard

/-- THE TIED CARD OF 'laws.FnFullRune'. -/
def fnFullRuneCard : Claim7 := { stood := { row := fnFullRuneRow, standIns := [], harness := (true, "742811b65ef5317c3b7751e089742dd109bd4447ca0431d72f3d95527e525de3"), looks := false }, kinds := [], alts := [], laidByText := true, laidKinds := [.data, .pinned], laidTests := true, laidLooks := .later }
def FnFullRuneCardSaid : Prop := Claim7.holds Tryd.pinned (.plain (OpenSpec.ofChange fnFullRuneSpec)) fnFullRuneCard

/-- THE TIED CARD OF 'laws.FnFullShort'. -/
def fnFullShortCard : Claim7 := { stood := { row := fnFullShortRow, standIns := [], harness := (true, "742811b65ef5317c3b7751e089742dd109bd4447ca0431d72f3d95527e525de3"), looks := false }, kinds := [], alts := [], laidByText := true, laidKinds := [.data, .pinned], laidTests := true, laidLooks := .later }
def FnFullShortCardSaid : Prop := Claim7.holds Tryd.pinned (.plain (OpenSpec.ofChange fnFullShortSpec)) fnFullShortCard

/-- THE TIED CARD OF 'laws.FnFullFour'. -/
def fnFullFourCard : Claim7 := { stood := { row := fnFullFourRow, standIns := [], harness := (true, "742811b65ef5317c3b7751e089742dd109bd4447ca0431d72f3d95527e525de3"), looks := false }, kinds := [], alts := [], laidByText := true, laidKinds := [.data, .pinned], laidTests := true, laidLooks := .later }
def FnFullFourCardSaid : Prop := Claim7.holds Tryd.pinned (.plain (OpenSpec.ofChange fnFullFourSpec)) fnFullFourCard

/-- THE TIED CARD OF 'laws.FnExactDecodeRuneInString'. -/
def fnExactDecodeRuneInStringCard : Claim7 := { stood := { row := fnExactDecodeRuneInStringRow, standIns := [], harness := (true, "742811b65ef5317c3b7751e089742dd109bd4447ca0431d72f3d95527e525de3"), looks := false }, kinds := [], alts := [], laidByText := true, laidKinds := [.data, .pinned], laidTests := true, laidLooks := .later }
def FnExactDecodeRuneInStringCardSaid : Prop := Claim7.holds Tryd.pinned (.plain (OpenSpec.ofChange fnExactDecodeRuneInStringSpec)) fnExactDecodeRuneInStringCard

/-- THE TIED CARD OF 'laws.FnExactValidString'. -/
def fnExactValidStringCard : Claim7 := { stood := { row := fnExactValidStringRow, standIns := [], harness := (true, "742811b65ef5317c3b7751e089742dd109bd4447ca0431d72f3d95527e525de3"), looks := false }, kinds := [], alts := [], laidByText := true, laidKinds := [.data, .pinned], laidTests := true, laidLooks := .later }
def FnExactValidStringCardSaid : Prop := Claim7.holds Tryd.pinned (.plain (OpenSpec.ofChange fnExactValidStringSpec)) fnExactValidStringCard

/-- THE TIED CARD OF 'laws.FnExactDecodeRune'. -/
def fnExactDecodeRuneCard : Claim7 := { stood := { row := fnExactDecodeRuneRow, standIns := [], harness := (true, "742811b65ef5317c3b7751e089742dd109bd4447ca0431d72f3d95527e525de3"), looks := false }, kinds := [], alts := [], laidByText := true, laidKinds := [.data, .pinned], laidTests := true, laidLooks := .later }
def FnExactDecodeRuneCardSaid : Prop := Claim7.holds Tryd.pinned (.plain (OpenSpec.ofChange fnExactDecodeRuneSpec)) fnExactDecodeRuneCard

/-- THE TIED CARD OF 'laws.FnExactValid'. -/
def fnExactValidCard : Claim7 := { stood := { row := fnExactValidRow, standIns := [], harness := (true, "742811b65ef5317c3b7751e089742dd109bd4447ca0431d72f3d95527e525de3"), looks := false }, kinds := [], alts := [], laidByText := true, laidKinds := [.data, .pinned], laidTests := true, laidLooks := .later }
def FnExactValidCardSaid : Prop := Claim7.holds Tryd.pinned (.plain (OpenSpec.ofChange fnExactValidSpec)) fnExactValidCard

/-- THE TIED CARD OF 'laws.FnValidJoin'. -/
def fnValidJoinCard : Claim7 := { stood := { row := fnValidJoinRow, standIns := [], harness := (true, "742811b65ef5317c3b7751e089742dd109bd4447ca0431d72f3d95527e525de3"), looks := false }, kinds := [], alts := [], laidByText := true, laidKinds := [.data, .pinned], laidTests := true, laidLooks := .later }
def FnValidJoinCardSaid : Prop := Claim7.holds Tryd.pinned (.plain (OpenSpec.ofChange fnValidJoinSpec)) fnValidJoinCard

/-- THE TIED CARD OF 'laws.FnConstants'. -/
def fnConstantsCard : Claim7 := { stood := { row := fnConstantsRow, standIns := [], harness := (true, "742811b65ef5317c3b7751e089742dd109bd4447ca0431d72f3d95527e525de3"), looks := false }, kinds := [], alts := [], laidByText := true, laidKinds := [.data, .pinned], laidTests := true, laidLooks := .later }
def FnConstantsCardSaid : Prop := Claim7.holds Tryd.pinned (.plain (OpenSpec.ofChange fnConstantsSpec)) fnConstantsCard

/-- THE TIED CARD OF 'laws.FnRunesBack'. -/
def fnRunesBackCard : Claim7 := { stood := { row := fnRunesBackRow, standIns := [], harness := (true, "742811b65ef5317c3b7751e089742dd109bd4447ca0431d72f3d95527e525de3"), looks := false }, kinds := [], alts := [], laidByText := true, laidKinds := [.data, .pinned], laidTests := true, laidLooks := .later }
def FnRunesBackCardSaid : Prop := Claim7.holds Tryd.pinned (.plain (OpenSpec.ofChange fnRunesBackSpec)) fnRunesBackCard

/-- THE SECOND FORM's CARD OF 'laws.FnStrings'. -/
def fnStringsUptoCard : Claim7 := { stood := { row := fnStringsUptoRow, standIns := [], harness := (true, "742811b65ef5317c3b7751e089742dd109bd4447ca0431d72f3d95527e525de3"), looks := false }, kinds := [], alts := [], laidByText := true, laidKinds := [.data, .pinned], laidTests := true, laidLooks := .later }
def FnStringsUptoCardSaid : Prop := Claim7.holds Tryd.pinned (.plain (OpenSpec.upto fnStringsSpec)) fnStringsUptoCard

/-- THE SECOND FORM's CARD OF 'laws.FnFullInvalid'. -/
def fnFullInvalidUptoCard : Claim7 := { stood := { row := fnFullInvalidUptoRow, standIns := [], harness := (true, "742811b65ef5317c3b7751e089742dd109bd4447ca0431d72f3d95527e525de3"), looks := false }, kinds := [], alts := [], laidByText := true, laidKinds := [.data, .pinned], laidTests := true, laidLooks := .later }
def FnFullInvalidUptoCardSaid : Prop := Claim7.holds Tryd.pinned (.plain (OpenSpec.upto fnFullInvalidSpec)) fnFullInvalidUptoCard

/-- THE SECOND FORM's CARD OF 'laws.FnFullRune'. -/
def fnFullRuneUptoCard : Claim7 := { stood := { row := fnFullRuneUptoRow, standIns := [], harness := (true, "742811b65ef5317c3b7751e089742dd109bd4447ca0431d72f3d95527e525de3"), looks := false }, kinds := [], alts := [], laidByText := true, laidKinds := [.data, .pinned], laidTests := true, laidLooks := .later }
def FnFullRuneUptoCardSaid : Prop := Claim7.holds Tryd.pinned (.plain (OpenSpec.upto fnFullRuneSpec)) fnFullRuneUptoCard

/-- THE SECOND FORM's CARD OF 'laws.FnFullShort'. -/
def fnFullShortUptoCard : Claim7 := { stood := { row := fnFullShortUptoRow, standIns := [], harness := (true, "742811b65ef5317c3b7751e089742dd109bd4447ca0431d72f3d95527e525de3"), looks := false }, kinds := [], alts := [], laidByText := true, laidKinds := [.data, .pinned], laidTests := true, laidLooks := .later }
def FnFullShortUptoCardSaid : Prop := Claim7.holds Tryd.pinned (.plain (OpenSpec.upto fnFullShortSpec)) fnFullShortUptoCard

/-- THE SECOND FORM's CARD OF 'laws.FnFullFour'. -/
def fnFullFourUptoCard : Claim7 := { stood := { row := fnFullFourUptoRow, standIns := [], harness := (true, "742811b65ef5317c3b7751e089742dd109bd4447ca0431d72f3d95527e525de3"), looks := false }, kinds := [], alts := [], laidByText := true, laidKinds := [.data, .pinned], laidTests := true, laidLooks := .later }
def FnFullFourUptoCardSaid : Prop := Claim7.holds Tryd.pinned (.plain (OpenSpec.upto fnFullFourSpec)) fnFullFourUptoCard

/-- THE SECOND FORM's CARD OF 'laws.FnExactDecodeRuneInString'. -/
def fnExactDecodeRuneInStringUptoCard : Claim7 := { stood := { row := fnExactDecodeRuneInStringUptoRow, standIns := [], harness := (true, "742811b65ef5317c3b7751e089742dd109bd4447ca0431d72f3d95527e525de3"), looks := false }, kinds := [], alts := [], laidByText := true, laidKinds := [.data, .pinned], laidTests := true, laidLooks := .later }
def FnExactDecodeRuneInStringUptoCardSaid : Prop := Claim7.holds Tryd.pinned (.plain (OpenSpec.upto fnExactDecodeRuneInStringSpec)) fnExactDecodeRuneInStringUptoCard

/-- THE SECOND FORM's CARD OF 'laws.FnExactValidString'. -/
def fnExactValidStringUptoCard : Claim7 := { stood := { row := fnExactValidStringUptoRow, standIns := [], harness := (true, "742811b65ef5317c3b7751e089742dd109bd4447ca0431d72f3d95527e525de3"), looks := false }, kinds := [], alts := [], laidByText := true, laidKinds := [.data, .pinned], laidTests := true, laidLooks := .later }
def FnExactValidStringUptoCardSaid : Prop := Claim7.holds Tryd.pinned (.plain (OpenSpec.upto fnExactValidStringSpec)) fnExactValidStringUptoCard

/-- THE SECOND FORM's CARD OF 'laws.FnExactDecodeRune'. -/
def fnExactDecodeRuneUptoCard : Claim7 := { stood := { row := fnExactDecodeRuneUptoRow, standIns := [], harness := (true, "742811b65ef5317c3b7751e089742dd109bd4447ca0431d72f3d95527e525de3"), looks := false }, kinds := [], alts := [], laidByText := true, laidKinds := [.data, .pinned], laidTests := true, laidLooks := .later }
def FnExactDecodeRuneUptoCardSaid : Prop := Claim7.holds Tryd.pinned (.plain (OpenSpec.upto fnExactDecodeRuneSpec)) fnExactDecodeRuneUptoCard

/-- THE SECOND FORM's CARD OF 'laws.FnExactValid'. -/
def fnExactValidUptoCard : Claim7 := { stood := { row := fnExactValidUptoRow, standIns := [], harness := (true, "742811b65ef5317c3b7751e089742dd109bd4447ca0431d72f3d95527e525de3"), looks := false }, kinds := [], alts := [], laidByText := true, laidKinds := [.data, .pinned], laidTests := true, laidLooks := .later }
def FnExactValidUptoCardSaid : Prop := Claim7.holds Tryd.pinned (.plain (OpenSpec.upto fnExactValidSpec)) fnExactValidUptoCard

/-- THE SECOND FORM's CARD OF 'laws.FnValidJoin'. -/
def fnValidJoinUptoCard : Claim7 := { stood := { row := fnValidJoinUptoRow, standIns := [], harness := (true, "742811b65ef5317c3b7751e089742dd109bd4447ca0431d72f3d95527e525de3"), looks := false }, kinds := [], alts := [], laidByText := true, laidKinds := [.data, .pinned], laidTests := true, laidLooks := .later }
def FnValidJoinUptoCardSaid : Prop := Claim7.holds Tryd.pinned (.plain (OpenSpec.upto fnValidJoinSpec)) fnValidJoinUptoCard

/-- THE SECOND FORM's CARD OF 'laws.FnConstants'. -/
def fnConstantsUptoCard : Claim7 := { stood := { row := fnConstantsUptoRow, standIns := [], harness := (true, "742811b65ef5317c3b7751e089742dd109bd4447ca0431d72f3d95527e525de3"), looks := false }, kinds := [], alts := [], laidByText := true, laidKinds := [.data, .pinned], laidTests := true, laidLooks := .later }
def FnConstantsUptoCardSaid : Prop := Claim7.holds Tryd.pinned (.plain (OpenSpec.upto fnConstantsSpec)) fnConstantsUptoCard

/-- THE SECOND FORM's CARD OF 'laws.FnRunesBack'. -/
def fnRunesBackUptoCard : Claim7 := { stood := { row := fnRunesBackUptoRow, standIns := [], harness := (true, "742811b65ef5317c3b7751e089742dd109bd4447ca0431d72f3d95527e525de3"), looks := false }, kinds := [], alts := [], laidByText := true, laidKinds := [.data, .pinned], laidTests := true, laidLooks := .later }
def FnRunesBackUptoCardSaid : Prop := Claim7.holds Tryd.pinned (.plain (OpenSpec.upto fnRunesBackSpec)) fnRunesBackUptoCard
end Rows
end Go.Proofs.YtgjdlcnmfpbbhaaDoor
