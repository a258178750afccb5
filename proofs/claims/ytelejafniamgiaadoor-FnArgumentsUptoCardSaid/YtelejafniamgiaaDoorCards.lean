/-
  DERIVED. GIVEN WITH THE SEED: THE CARDS: each row of YtelejafniamgiaaDoorRows.lean that lists a variable, with what it lists TIED to the program's text (the seventh form; the later family's looks); each row that meets fmt, with fmt's text TOLD by the authors' own Lean function (tested against real Go, not proved from fmt's source: count such statements apart). THE CARD IS WHAT COUNTS. Prove the row's statement (the work); the ties are given (YtelejafniamgiaaDoorTie.lean); close each card by the builder's one call (the guide's Derived/Test/ToyasCard.lean, 'card_holds'). Laid BY PROGRAM, IN A SANDBOX (cutbox-door.mjs). By AI agents, Wed Nov 11 2026. No macro, syntax, notation, axiom, sorry.
-/
import Derived.Test.YtelejafniamgiaaDoorRows
import GoSem.ClaimSeven
namespace Go.Proofs.YtelejafniamgiaaDoor
namespace Rows

/-- THE TIED CARD OF 'laws.FnRoundTrip'. -/
def fnRoundTripCard : Claim7 := { stood := { row := fnRoundTripRow, standIns := [], harness := (true, "9c4a189c112b37d8cd2c4ba94bbcb8a3dad7a79a942cdf2fe0a80bef294eb262"), looks := false }, kinds := [], alts := [], laidByText := true, laidKinds := [.data, .pinned], laidTests := true, laidLooks := .later }
def FnRoundTripCardSaid : Prop := Claim7.holds Tryd.pinned (.plain (OpenSpec.ofChange fnRoundTripSpec)) fnRoundTripCard

/-- THE TIED CARD OF 'laws.FnFullGrows'. -/
def fnFullGrowsCard : Claim7 := { stood := { row := fnFullGrowsRow, standIns := [], harness := (true, "9c4a189c112b37d8cd2c4ba94bbcb8a3dad7a79a942cdf2fe0a80bef294eb262"), looks := false }, kinds := [], alts := [], laidByText := true, laidKinds := [.data, .pinned], laidTests := true, laidLooks := .later }
def FnFullGrowsCardSaid : Prop := Claim7.holds Tryd.pinned (.plain (OpenSpec.ofChange fnFullGrowsSpec)) fnFullGrowsCard

/-- THE TIED CARD OF 'laws.FnAscii'. -/
def fnAsciiCard : Claim7 := { stood := { row := fnAsciiRow, standIns := [], harness := (true, "9c4a189c112b37d8cd2c4ba94bbcb8a3dad7a79a942cdf2fe0a80bef294eb262"), looks := false }, kinds := [], alts := [], laidByText := true, laidKinds := [.data, .pinned], laidTests := true, laidLooks := .later }
def FnAsciiCardSaid : Prop := Claim7.holds Tryd.pinned (.plain (OpenSpec.ofChange fnAsciiSpec)) fnAsciiCard

/-- THE TIED CARD OF 'laws.FnArguments'. -/
def fnArgumentsCard : Claim7 := { stood := { row := fnArgumentsRow, standIns := [], harness := (true, "9c4a189c112b37d8cd2c4ba94bbcb8a3dad7a79a942cdf2fe0a80bef294eb262"), looks := false }, kinds := [], alts := [], laidByText := true, laidKinds := [.data, .pinned], laidTests := true, laidLooks := .later }
def FnArgumentsCardSaid : Prop := Claim7.holds Tryd.pinned (.plain (OpenSpec.ofChange fnArgumentsSpec)) fnArgumentsCard

/-- THE SECOND FORM's CARD OF 'laws.FnRoundTrip'. -/
def fnRoundTripUptoCard : Claim7 := { stood := { row := fnRoundTripUptoRow, standIns := [], harness := (true, "9c4a189c112b37d8cd2c4ba94bbcb8a3dad7a79a942cdf2fe0a80bef294eb262"), looks := false }, kinds := [], alts := [], laidByText := true, laidKinds := [.data, .pinned], laidTests := true, laidLooks := .later }
def FnRoundTripUptoCardSaid : Prop := Claim7.holds Tryd.pinned (.plain (OpenSpec.upto fnRoundTripSpec)) fnRoundTripUptoCard

/-- THE SECOND FORM's CARD OF 'laws.FnFullGrows'. -/
def fnFullGrowsUptoCard : Claim7 := { stood := { row := fnFullGrowsUptoRow, standIns := [], harness := (true, "9c4a189c112b37d8cd2c4ba94bbcb8a3dad7a79a942cdf2fe0a80bef294eb262"), looks := false }, kinds := [], alts := [], laidByText := true, laidKinds := [.data, .pinned], laidTests := true, laidLooks := .later }
def FnFullGrowsUptoCardSaid : Prop := Claim7.holds Tryd.pinned (.plain (OpenSpec.upto fnFullGrowsSpec)) fnFullGrowsUptoCard

/-- THE SECOND FORM's CARD OF 'laws.FnAscii'. -/
def fnAsciiUptoCard : Claim7 := { stood := { row := fnAsciiUptoRow, standIns := [], harness := (true, "9c4a189c112b37d8cd2c4ba94bbcb8a3dad7a79a942cdf2fe0a80bef294eb262"), looks := false }, kinds := [], alts := [], laidByText := true, laidKinds := [.data, .pinned], laidTests := true, laidLooks := .later }
def FnAsciiUptoCardSaid : Prop := Claim7.holds Tryd.pinned (.plain (OpenSpec.upto fnAsciiSpec)) fnAsciiUptoCard

/-- THE SECOND FORM's CARD OF 'laws.FnArguments'. -/
def fnArgumentsUptoCard : Claim7 := { stood := { row := fnArgumentsUptoRow, standIns := [], harness := (true, "9c4a189c112b37d8cd2c4ba94bbcb8a3dad7a79a942cdf2fe0a80bef294eb262"), looks := false }, kinds := [], alts := [], laidByText := true, laidKinds := [.data, .pinned], laidTests := true, laidLooks := .later }
def FnArgumentsUptoCardSaid : Prop := Claim7.holds Tryd.pinned (.plain (OpenSpec.upto fnArgumentsSpec)) fnArgumentsUptoCard
end Rows
end Go.Proofs.YtelejafniamgiaaDoor
