/-
  DERIVED. GIVEN WITH THE SEED: THE CARDS: each row of YtpijokiagkhdeaaDoorRows.lean that lists a variable, with what it lists TIED to the program's text (the seventh form; the later family's looks); each row that meets fmt, with fmt's text TOLD by the authors' own Lean function (tested against real Go, not proved from fmt's source: count such statements apart). THE CARD IS WHAT COUNTS. Prove the row's statement (the work); the ties are given (YtpijokiagkhdeaaDoorTie.lean); close each card by the builder's one call (the guide's Derived/Test/ToyasCard.lean, 'card_holds'). Laid BY PROGRAM, IN A SANDBOX (cutbox-door.mjs). By AI agents, Wed Nov 11 2026. No macro, syntax, notation, axiom, sorry.
-/
import Derived.Test.YtpijokiagkhdeaaDoorRows
import GoSem.ClaimSeven
namespace Go.Proofs.YtpijokiagkhdeaaDoor
namespace Rows

/-- THE TIED CARD OF 'laws.FnToValidRunes'. -/
def fnToValidRunesCard : Claim7 := { stood := { row := fnToValidRunesRow, standIns := [], harness := (true, "ac27410eb699b66d570de9a6c4339e5ff469b6fb76e908f7b2735f4a30ce3157"), looks := false }, kinds := [], alts := [], laidByText := true, laidKinds := [.data, .pinned], laidTests := true, laidLooks := .later }
def FnToValidRunesCardSaid : Prop := Claim7.holds Tryd.pinned (.plain (OpenSpec.ofChange fnToValidRunesSpec)) fnToValidRunesCard

/-- THE TIED CARD OF 'laws.FnOverlong'. -/
def fnOverlongCard : Claim7 := { stood := { row := fnOverlongRow, standIns := [], harness := (true, "ac27410eb699b66d570de9a6c4339e5ff469b6fb76e908f7b2735f4a30ce3157"), looks := false }, kinds := [], alts := [], laidByText := true, laidKinds := [.data, .pinned], laidTests := true, laidLooks := .later }
def FnOverlongCardSaid : Prop := Claim7.holds Tryd.pinned (.plain (OpenSpec.ofChange fnOverlongSpec)) fnOverlongCard

/-- THE TIED CARD OF 'laws.FnAllBytes'. -/
def fnAllBytesCard : Claim7 := { stood := { row := fnAllBytesRow, standIns := [], harness := (true, "ac27410eb699b66d570de9a6c4339e5ff469b6fb76e908f7b2735f4a30ce3157"), looks := false }, kinds := [], alts := [], laidByText := true, laidKinds := [.data, .pinned], laidTests := true, laidLooks := .later }
def FnAllBytesCardSaid : Prop := Claim7.holds Tryd.pinned (.plain (OpenSpec.ofChange fnAllBytesSpec)) fnAllBytesCard

/-- THE TIED CARD OF 'laws.FnErrorRune'. -/
def fnErrorRuneCard : Claim7 := { stood := { row := fnErrorRuneRow, standIns := [], harness := (true, "ac27410eb699b66d570de9a6c4339e5ff469b6fb76e908f7b2735f4a30ce3157"), looks := false }, kinds := [], alts := [], laidByText := true, laidKinds := [.data, .pinned], laidTests := true, laidLooks := .later }
def FnErrorRuneCardSaid : Prop := Claim7.holds Tryd.pinned (.plain (OpenSpec.ofChange fnErrorRuneSpec)) fnErrorRuneCard

/-- THE TIED CARD OF 'laws.FnBeyond'. -/
def fnBeyondCard : Claim7 := { stood := { row := fnBeyondRow, standIns := [], harness := (true, "ac27410eb699b66d570de9a6c4339e5ff469b6fb76e908f7b2735f4a30ce3157"), looks := false }, kinds := [], alts := [], laidByText := true, laidKinds := [.data, .pinned], laidTests := true, laidLooks := .later }
def FnBeyondCardSaid : Prop := Claim7.holds Tryd.pinned (.plain (OpenSpec.ofChange fnBeyondSpec)) fnBeyondCard

/-- THE TIED CARD OF 'laws.FnSuffixes'. -/
def fnSuffixesCard : Claim7 := { stood := { row := fnSuffixesRow, standIns := [], harness := (true, "ac27410eb699b66d570de9a6c4339e5ff469b6fb76e908f7b2735f4a30ce3157"), looks := false }, kinds := [], alts := [], laidByText := true, laidKinds := [.data, .pinned], laidTests := true, laidLooks := .later }
def FnSuffixesCardSaid : Prop := Claim7.holds Tryd.pinned (.plain (OpenSpec.ofChange fnSuffixesSpec)) fnSuffixesCard

/-- THE TIED CARD OF 'laws.FnToValidGood'. -/
def fnToValidGoodCard : Claim7 := { stood := { row := fnToValidGoodRow, standIns := [], harness := (true, "ac27410eb699b66d570de9a6c4339e5ff469b6fb76e908f7b2735f4a30ce3157"), looks := false }, kinds := [], alts := [], laidByText := true, laidKinds := [.data, .pinned], laidTests := true, laidLooks := .later }
def FnToValidGoodCardSaid : Prop := Claim7.holds Tryd.pinned (.plain (OpenSpec.ofChange fnToValidGoodSpec)) fnToValidGoodCard

/-- THE TIED CARD OF 'laws.FnToValidRuns'. -/
def fnToValidRunsCard : Claim7 := { stood := { row := fnToValidRunsRow, standIns := [], harness := (true, "ac27410eb699b66d570de9a6c4339e5ff469b6fb76e908f7b2735f4a30ce3157"), looks := false }, kinds := [], alts := [], laidByText := true, laidKinds := [.data, .pinned], laidTests := true, laidLooks := .later }
def FnToValidRunsCardSaid : Prop := Claim7.holds Tryd.pinned (.plain (OpenSpec.ofChange fnToValidRunsSpec)) fnToValidRunsCard

/-- THE TIED CARD OF 'laws.FnPrefixes'. -/
def fnPrefixesCard : Claim7 := { stood := { row := fnPrefixesRow, standIns := [], harness := (true, "ac27410eb699b66d570de9a6c4339e5ff469b6fb76e908f7b2735f4a30ce3157"), looks := false }, kinds := [], alts := [], laidByText := true, laidKinds := [.data, .pinned], laidTests := true, laidLooks := .later }
def FnPrefixesCardSaid : Prop := Claim7.holds Tryd.pinned (.plain (OpenSpec.ofChange fnPrefixesSpec)) fnPrefixesCard

/-- THE TIED CARD OF 'laws.FnHalves'. -/
def fnHalvesCard : Claim7 := { stood := { row := fnHalvesRow, standIns := [], harness := (true, "ac27410eb699b66d570de9a6c4339e5ff469b6fb76e908f7b2735f4a30ce3157"), looks := false }, kinds := [], alts := [], laidByText := true, laidKinds := [.data, .pinned], laidTests := true, laidLooks := .later }
def FnHalvesCardSaid : Prop := Claim7.holds Tryd.pinned (.plain (OpenSpec.ofChange fnHalvesSpec)) fnHalvesCard

/-- THE TIED CARD OF 'laws.FnToValidTells'. -/
def fnToValidTellsCard : Claim7 := { stood := { row := fnToValidTellsRow, standIns := [], harness := (true, "ac27410eb699b66d570de9a6c4339e5ff469b6fb76e908f7b2735f4a30ce3157"), looks := false }, kinds := [], alts := [], laidByText := true, laidKinds := [.data, .pinned], laidTests := true, laidLooks := .later }
def FnToValidTellsCardSaid : Prop := Claim7.holds Tryd.pinned (.plain (OpenSpec.ofChange fnToValidTellsSpec)) fnToValidTellsCard

/-- THE TIED CARD OF 'laws.FnLast'. -/
def fnLastCard : Claim7 := { stood := { row := fnLastRow, standIns := [], harness := (true, "ac27410eb699b66d570de9a6c4339e5ff469b6fb76e908f7b2735f4a30ce3157"), looks := false }, kinds := [], alts := [], laidByText := true, laidKinds := [.data, .pinned], laidTests := true, laidLooks := .later }
def FnLastCardSaid : Prop := Claim7.holds Tryd.pinned (.plain (OpenSpec.ofChange fnLastSpec)) fnLastCard

/-- THE SECOND FORM's CARD OF 'laws.FnToValidRunes'. -/
def fnToValidRunesUptoCard : Claim7 := { stood := { row := fnToValidRunesUptoRow, standIns := [], harness := (true, "ac27410eb699b66d570de9a6c4339e5ff469b6fb76e908f7b2735f4a30ce3157"), looks := false }, kinds := [], alts := [], laidByText := true, laidKinds := [.data, .pinned], laidTests := true, laidLooks := .later }
def FnToValidRunesUptoCardSaid : Prop := Claim7.holds Tryd.pinned (.plain (OpenSpec.upto fnToValidRunesSpec)) fnToValidRunesUptoCard

/-- THE SECOND FORM's CARD OF 'laws.FnOverlong'. -/
def fnOverlongUptoCard : Claim7 := { stood := { row := fnOverlongUptoRow, standIns := [], harness := (true, "ac27410eb699b66d570de9a6c4339e5ff469b6fb76e908f7b2735f4a30ce3157"), looks := false }, kinds := [], alts := [], laidByText := true, laidKinds := [.data, .pinned], laidTests := true, laidLooks := .later }
def FnOverlongUptoCardSaid : Prop := Claim7.holds Tryd.pinned (.plain (OpenSpec.upto fnOverlongSpec)) fnOverlongUptoCard

/-- THE SECOND FORM's CARD OF 'laws.FnAllBytes'. -/
def fnAllBytesUptoCard : Claim7 := { stood := { row := fnAllBytesUptoRow, standIns := [], harness := (true, "ac27410eb699b66d570de9a6c4339e5ff469b6fb76e908f7b2735f4a30ce3157"), looks := false }, kinds := [], alts := [], laidByText := true, laidKinds := [.data, .pinned], laidTests := true, laidLooks := .later }
def FnAllBytesUptoCardSaid : Prop := Claim7.holds Tryd.pinned (.plain (OpenSpec.upto fnAllBytesSpec)) fnAllBytesUptoCard

/-- THE SECOND FORM's CARD OF 'laws.FnErrorRune'. -/
def fnErrorRuneUptoCard : Claim7 := { stood := { row := fnErrorRuneUptoRow, standIns := [], harness := (true, "ac27410eb699b66d570de9a6c4339e5ff469b6fb76e908f7b2735f4a30ce3157"), looks := false }, kinds := [], alts := [], laidByText := true, laidKinds := [.data, .pinned], laidTests := true, laidLooks := .later }
def FnErrorRuneUptoCardSaid : Prop := Claim7.holds Tryd.pinned (.plain (OpenSpec.upto fnErrorRuneSpec)) fnErrorRuneUptoCard

/-- THE SECOND FORM's CARD OF 'laws.FnBeyond'. -/
def fnBeyondUptoCard : Claim7 := { stood := { row := fnBeyondUptoRow, standIns := [], harness := (true, "ac27410eb699b66d570de9a6c4339e5ff469b6fb76e908f7b2735f4a30ce3157"), looks := false }, kinds := [], alts := [], laidByText := true, laidKinds := [.data, .pinned], laidTests := true, laidLooks := .later }
def FnBeyondUptoCardSaid : Prop := Claim7.holds Tryd.pinned (.plain (OpenSpec.upto fnBeyondSpec)) fnBeyondUptoCard

/-- THE SECOND FORM's CARD OF 'laws.FnSuffixes'. -/
def fnSuffixesUptoCard : Claim7 := { stood := { row := fnSuffixesUptoRow, standIns := [], harness := (true, "ac27410eb699b66d570de9a6c4339e5ff469b6fb76e908f7b2735f4a30ce3157"), looks := false }, kinds := [], alts := [], laidByText := true, laidKinds := [.data, .pinned], laidTests := true, laidLooks := .later }
def FnSuffixesUptoCardSaid : Prop := Claim7.holds Tryd.pinned (.plain (OpenSpec.upto fnSuffixesSpec)) fnSuffixesUptoCard

/-- THE SECOND FORM's CARD OF 'laws.FnToValidGood'. -/
def fnToValidGoodUptoCard : Claim7 := { stood := { row := fnToValidGoodUptoRow, standIns := [], harness := (true, "ac27410eb699b66d570de9a6c4339e5ff469b6fb76e908f7b2735f4a30ce3157"), looks := false }, kinds := [], alts := [], laidByText := true, laidKinds := [.data, .pinned], laidTests := true, laidLooks := .later }
def FnToValidGoodUptoCardSaid : Prop := Claim7.holds Tryd.pinned (.plain (OpenSpec.upto fnToValidGoodSpec)) fnToValidGoodUptoCard

/-- THE SECOND FORM's CARD OF 'laws.FnToValidRuns'. -/
def fnToValidRunsUptoCard : Claim7 := { stood := { row := fnToValidRunsUptoRow, standIns := [], harness := (true, "ac27410eb699b66d570de9a6c4339e5ff469b6fb76e908f7b2735f4a30ce3157"), looks := false }, kinds := [], alts := [], laidByText := true, laidKinds := [.data, .pinned], laidTests := true, laidLooks := .later }
def FnToValidRunsUptoCardSaid : Prop := Claim7.holds Tryd.pinned (.plain (OpenSpec.upto fnToValidRunsSpec)) fnToValidRunsUptoCard

/-- THE SECOND FORM's CARD OF 'laws.FnPrefixes'. -/
def fnPrefixesUptoCard : Claim7 := { stood := { row := fnPrefixesUptoRow, standIns := [], harness := (true, "ac27410eb699b66d570de9a6c4339e5ff469b6fb76e908f7b2735f4a30ce3157"), looks := false }, kinds := [], alts := [], laidByText := true, laidKinds := [.data, .pinned], laidTests := true, laidLooks := .later }
def FnPrefixesUptoCardSaid : Prop := Claim7.holds Tryd.pinned (.plain (OpenSpec.upto fnPrefixesSpec)) fnPrefixesUptoCard

/-- THE SECOND FORM's CARD OF 'laws.FnHalves'. -/
def fnHalvesUptoCard : Claim7 := { stood := { row := fnHalvesUptoRow, standIns := [], harness := (true, "ac27410eb699b66d570de9a6c4339e5ff469b6fb76e908f7b2735f4a30ce3157"), looks := false }, kinds := [], alts := [], laidByText := true, laidKinds := [.data, .pinned], laidTests := true, laidLooks := .later }
def FnHalvesUptoCardSaid : Prop := Claim7.holds Tryd.pinned (.plain (OpenSpec.upto fnHalvesSpec)) fnHalvesUptoCard

/-- THE SECOND FORM's CARD OF 'laws.FnToValidTells'. -/
def fnToValidTellsUptoCard : Claim7 := { stood := { row := fnToValidTellsUptoRow, standIns := [], harness := (true, "ac27410eb699b66d570de9a6c4339e5ff469b6fb76e908f7b2735f4a30ce3157"), looks := false }, kinds := [], alts := [], laidByText := true, laidKinds := [.data, .pinned], laidTests := true, laidLooks := .later }
def FnToValidTellsUptoCardSaid : Prop := Claim7.holds Tryd.pinned (.plain (OpenSpec.upto fnToValidTellsSpec)) fnToValidTellsUptoCard

/-- THE SECOND FORM's CARD OF 'laws.FnLast'. -/
def fnLastUptoCard : Claim7 := { stood := { row := fnLastUptoRow, standIns := [], harness := (true, "ac27410eb699b66d570de9a6c4339e5ff469b6fb76e908f7b2735f4a30ce3157"), looks := false }, kinds := [], alts := [], laidByText := true, laidKinds := [.data, .pinned], laidTests := true, laidLooks := .later }
def FnLastUptoCardSaid : Prop := Claim7.holds Tryd.pinned (.plain (OpenSpec.upto fnLastSpec)) fnLastUptoCard
end Rows
end Go.Proofs.YtpijokiagkhdeaaDoor
