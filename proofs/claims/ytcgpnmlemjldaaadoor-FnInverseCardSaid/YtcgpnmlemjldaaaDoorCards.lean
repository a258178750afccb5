/-
  DERIVED. GIVEN WITH THE SEED: THE CARDS: each row of YtcgpnmlemjldaaaDoorRows.lean that lists a variable, with what it lists TIED to the program's text (the seventh form; the later family's looks); each row that meets fmt, with fmt's text TOLD by the authors' own Lean function (tested against real Go, not proved from fmt's source: count such statements apart). THE CARD IS WHAT COUNTS. Prove the row's statement (the work); the ties are given (YtcgpnmlemjldaaaDoorTie.lean); close each card by the builder's one call (the guide's Derived/Test/ToyasCard.lean, 'card_holds'). Laid BY PROGRAM, IN A SANDBOX (cutbox-door.mjs). By AI agents, Wed Nov 11 2026. No macro, syntax, notation, axiom, sorry.
-/
import Derived.Test.YtcgpnmlemjldaaaDoorRows
import GoSem.ClaimSeven
namespace Go.Proofs.YtcgpnmlemjldaaaDoor
namespace Rows

/-- THE TIED CARD OF 'laws.FnWidths'. -/
def fnWidthsCard : Claim7 := { stood := { row := fnWidthsRow, standIns := [], harness := (true, "ab7f88db9e4e8edfa8a3dc02ee84cc00bcc9e8bd6e8937b4d7da816cfe6296db"), looks := false }, kinds := [], alts := [], laidByText := true, laidKinds := [.data, .pinned], laidTests := true, laidLooks := .later }
def FnWidthsCardSaid : Prop := Claim7.holds Tryd.pinned (.plain (OpenSpec.ofChange fnWidthsSpec)) fnWidthsCard

/-- THE TIED CARD OF 'laws.FnCanEncode'. -/
def fnCanEncodeCard : Claim7 := { stood := { row := fnCanEncodeRow, standIns := [], harness := (true, "ab7f88db9e4e8edfa8a3dc02ee84cc00bcc9e8bd6e8937b4d7da816cfe6296db"), looks := false }, kinds := [], alts := [], laidByText := true, laidKinds := [.data, .pinned], laidTests := true, laidLooks := .later }
def FnCanEncodeCardSaid : Prop := Claim7.holds Tryd.pinned (.plain (OpenSpec.ofChange fnCanEncodeSpec)) fnCanEncodeCard

/-- THE TIED CARD OF 'laws.FnInverse'. -/
def fnInverseCard : Claim7 := { stood := { row := fnInverseRow, standIns := [], harness := (true, "ab7f88db9e4e8edfa8a3dc02ee84cc00bcc9e8bd6e8937b4d7da816cfe6296db"), looks := false }, kinds := [], alts := [], laidByText := true, laidKinds := [.data, .pinned], laidTests := true, laidLooks := .later }
def FnInverseCardSaid : Prop := Claim7.holds Tryd.pinned (.plain (OpenSpec.ofChange fnInverseSpec)) fnInverseCard

/-- THE TIED CARD OF 'laws.FnSpoiltByte'. -/
def fnSpoiltByteCard : Claim7 := { stood := { row := fnSpoiltByteRow, standIns := [], harness := (true, "ab7f88db9e4e8edfa8a3dc02ee84cc00bcc9e8bd6e8937b4d7da816cfe6296db"), looks := false }, kinds := [], alts := [], laidByText := true, laidKinds := [.data, .pinned], laidTests := true, laidLooks := .later }
def FnSpoiltByteCardSaid : Prop := Claim7.holds Tryd.pinned (.plain (OpenSpec.ofChange fnSpoiltByteSpec)) fnSpoiltByteCard

/-- THE TIED CARD OF 'laws.FnSteps'. -/
def fnStepsCard : Claim7 := { stood := { row := fnStepsRow, standIns := [], harness := (true, "ab7f88db9e4e8edfa8a3dc02ee84cc00bcc9e8bd6e8937b4d7da816cfe6296db"), looks := false }, kinds := [], alts := [], laidByText := true, laidKinds := [.data, .pinned], laidTests := true, laidLooks := .later }
def FnStepsCardSaid : Prop := Claim7.holds Tryd.pinned (.plain (OpenSpec.ofChange fnStepsSpec)) fnStepsCard

/-- THE TIED CARD OF 'laws.FnExactToValid'. -/
def fnExactToValidCard : Claim7 := { stood := { row := fnExactToValidRow, standIns := [], harness := (true, "ab7f88db9e4e8edfa8a3dc02ee84cc00bcc9e8bd6e8937b4d7da816cfe6296db"), looks := false }, kinds := [], alts := [], laidByText := true, laidKinds := [.data, .pinned], laidTests := true, laidLooks := .later }
def FnExactToValidCardSaid : Prop := Claim7.holds Tryd.pinned (.plain (OpenSpec.ofChange fnExactToValidSpec)) fnExactToValidCard

/-- THE TIED CARD OF 'laws.FnToValidJoin'. -/
def fnToValidJoinCard : Claim7 := { stood := { row := fnToValidJoinRow, standIns := [], harness := (true, "ab7f88db9e4e8edfa8a3dc02ee84cc00bcc9e8bd6e8937b4d7da816cfe6296db"), looks := false }, kinds := [], alts := [], laidByText := true, laidKinds := [.data, .pinned], laidTests := true, laidLooks := .later }
def FnToValidJoinCardSaid : Prop := Claim7.holds Tryd.pinned (.plain (OpenSpec.ofChange fnToValidJoinSpec)) fnToValidJoinCard

/-- THE TIED CARD OF 'laws.FnToValidSplit'. -/
def fnToValidSplitCard : Claim7 := { stood := { row := fnToValidSplitRow, standIns := [], harness := (true, "ab7f88db9e4e8edfa8a3dc02ee84cc00bcc9e8bd6e8937b4d7da816cfe6296db"), looks := false }, kinds := [], alts := [], laidByText := true, laidKinds := [.data, .pinned], laidTests := true, laidLooks := .later }
def FnToValidSplitCardSaid : Prop := Claim7.holds Tryd.pinned (.plain (OpenSpec.ofChange fnToValidSplitSpec)) fnToValidSplitCard

/-- THE TIED CARD OF 'laws.FnToValidTwice'. -/
def fnToValidTwiceCard : Claim7 := { stood := { row := fnToValidTwiceRow, standIns := [], harness := (true, "ab7f88db9e4e8edfa8a3dc02ee84cc00bcc9e8bd6e8937b4d7da816cfe6296db"), looks := false }, kinds := [], alts := [], laidByText := true, laidKinds := [.data, .pinned], laidTests := true, laidLooks := .later }
def FnToValidTwiceCardSaid : Prop := Claim7.holds Tryd.pinned (.plain (OpenSpec.ofChange fnToValidTwiceSpec)) fnToValidTwiceCard

/-- THE TIED CARD OF 'laws.FnFirst'. -/
def fnFirstCard : Claim7 := { stood := { row := fnFirstRow, standIns := [], harness := (true, "ab7f88db9e4e8edfa8a3dc02ee84cc00bcc9e8bd6e8937b4d7da816cfe6296db"), looks := false }, kinds := [], alts := [], laidByText := true, laidKinds := [.data, .pinned], laidTests := true, laidLooks := .later }
def FnFirstCardSaid : Prop := Claim7.holds Tryd.pinned (.plain (OpenSpec.ofChange fnFirstSpec)) fnFirstCard

/-- THE TIED CARD OF 'laws.FnValidText'. -/
def fnValidTextCard : Claim7 := { stood := { row := fnValidTextRow, standIns := [], harness := (true, "ab7f88db9e4e8edfa8a3dc02ee84cc00bcc9e8bd6e8937b4d7da816cfe6296db"), looks := false }, kinds := [], alts := [], laidByText := true, laidKinds := [.data, .pinned], laidTests := true, laidLooks := .later }
def FnValidTextCardSaid : Prop := Claim7.holds Tryd.pinned (.plain (OpenSpec.ofChange fnValidTextSpec)) fnValidTextCard

/-- THE TIED CARD OF 'laws.FnToValidByRange'. -/
def fnToValidByRangeCard : Claim7 := { stood := { row := fnToValidByRangeRow, standIns := [], harness := (true, "ab7f88db9e4e8edfa8a3dc02ee84cc00bcc9e8bd6e8937b4d7da816cfe6296db"), looks := false }, kinds := [], alts := [], laidByText := true, laidKinds := [.data, .pinned], laidTests := true, laidLooks := .later }
def FnToValidByRangeCardSaid : Prop := Claim7.holds Tryd.pinned (.plain (OpenSpec.ofChange fnToValidByRangeSpec)) fnToValidByRangeCard

/-- THE SECOND FORM's CARD OF 'laws.FnWidths'. -/
def fnWidthsUptoCard : Claim7 := { stood := { row := fnWidthsUptoRow, standIns := [], harness := (true, "ab7f88db9e4e8edfa8a3dc02ee84cc00bcc9e8bd6e8937b4d7da816cfe6296db"), looks := false }, kinds := [], alts := [], laidByText := true, laidKinds := [.data, .pinned], laidTests := true, laidLooks := .later }
def FnWidthsUptoCardSaid : Prop := Claim7.holds Tryd.pinned (.plain (OpenSpec.upto fnWidthsSpec)) fnWidthsUptoCard

/-- THE SECOND FORM's CARD OF 'laws.FnCanEncode'. -/
def fnCanEncodeUptoCard : Claim7 := { stood := { row := fnCanEncodeUptoRow, standIns := [], harness := (true, "ab7f88db9e4e8edfa8a3dc02ee84cc00bcc9e8bd6e8937b4d7da816cfe6296db"), looks := false }, kinds := [], alts := [], laidByText := true, laidKinds := [.data, .pinned], laidTests := true, laidLooks := .later }
def FnCanEncodeUptoCardSaid : Prop := Claim7.holds Tryd.pinned (.plain (OpenSpec.upto fnCanEncodeSpec)) fnCanEncodeUptoCard

/-- THE SECOND FORM's CARD OF 'laws.FnInverse'. -/
def fnInverseUptoCard : Claim7 := { stood := { row := fnInverseUptoRow, standIns := [], harness := (true, "ab7f88db9e4e8edfa8a3dc02ee84cc00bcc9e8bd6e8937b4d7da816cfe6296db"), looks := false }, kinds := [], alts := [], laidByText := true, laidKinds := [.data, .pinned], laidTests := true, laidLooks := .later }
def FnInverseUptoCardSaid : Prop := Claim7.holds Tryd.pinned (.plain (OpenSpec.upto fnInverseSpec)) fnInverseUptoCard

/-- THE SECOND FORM's CARD OF 'laws.FnSpoiltByte'. -/
def fnSpoiltByteUptoCard : Claim7 := { stood := { row := fnSpoiltByteUptoRow, standIns := [], harness := (true, "ab7f88db9e4e8edfa8a3dc02ee84cc00bcc9e8bd6e8937b4d7da816cfe6296db"), looks := false }, kinds := [], alts := [], laidByText := true, laidKinds := [.data, .pinned], laidTests := true, laidLooks := .later }
def FnSpoiltByteUptoCardSaid : Prop := Claim7.holds Tryd.pinned (.plain (OpenSpec.upto fnSpoiltByteSpec)) fnSpoiltByteUptoCard

/-- THE SECOND FORM's CARD OF 'laws.FnSteps'. -/
def fnStepsUptoCard : Claim7 := { stood := { row := fnStepsUptoRow, standIns := [], harness := (true, "ab7f88db9e4e8edfa8a3dc02ee84cc00bcc9e8bd6e8937b4d7da816cfe6296db"), looks := false }, kinds := [], alts := [], laidByText := true, laidKinds := [.data, .pinned], laidTests := true, laidLooks := .later }
def FnStepsUptoCardSaid : Prop := Claim7.holds Tryd.pinned (.plain (OpenSpec.upto fnStepsSpec)) fnStepsUptoCard

/-- THE SECOND FORM's CARD OF 'laws.FnExactToValid'. -/
def fnExactToValidUptoCard : Claim7 := { stood := { row := fnExactToValidUptoRow, standIns := [], harness := (true, "ab7f88db9e4e8edfa8a3dc02ee84cc00bcc9e8bd6e8937b4d7da816cfe6296db"), looks := false }, kinds := [], alts := [], laidByText := true, laidKinds := [.data, .pinned], laidTests := true, laidLooks := .later }
def FnExactToValidUptoCardSaid : Prop := Claim7.holds Tryd.pinned (.plain (OpenSpec.upto fnExactToValidSpec)) fnExactToValidUptoCard

/-- THE SECOND FORM's CARD OF 'laws.FnToValidJoin'. -/
def fnToValidJoinUptoCard : Claim7 := { stood := { row := fnToValidJoinUptoRow, standIns := [], harness := (true, "ab7f88db9e4e8edfa8a3dc02ee84cc00bcc9e8bd6e8937b4d7da816cfe6296db"), looks := false }, kinds := [], alts := [], laidByText := true, laidKinds := [.data, .pinned], laidTests := true, laidLooks := .later }
def FnToValidJoinUptoCardSaid : Prop := Claim7.holds Tryd.pinned (.plain (OpenSpec.upto fnToValidJoinSpec)) fnToValidJoinUptoCard

/-- THE SECOND FORM's CARD OF 'laws.FnToValidSplit'. -/
def fnToValidSplitUptoCard : Claim7 := { stood := { row := fnToValidSplitUptoRow, standIns := [], harness := (true, "ab7f88db9e4e8edfa8a3dc02ee84cc00bcc9e8bd6e8937b4d7da816cfe6296db"), looks := false }, kinds := [], alts := [], laidByText := true, laidKinds := [.data, .pinned], laidTests := true, laidLooks := .later }
def FnToValidSplitUptoCardSaid : Prop := Claim7.holds Tryd.pinned (.plain (OpenSpec.upto fnToValidSplitSpec)) fnToValidSplitUptoCard

/-- THE SECOND FORM's CARD OF 'laws.FnToValidTwice'. -/
def fnToValidTwiceUptoCard : Claim7 := { stood := { row := fnToValidTwiceUptoRow, standIns := [], harness := (true, "ab7f88db9e4e8edfa8a3dc02ee84cc00bcc9e8bd6e8937b4d7da816cfe6296db"), looks := false }, kinds := [], alts := [], laidByText := true, laidKinds := [.data, .pinned], laidTests := true, laidLooks := .later }
def FnToValidTwiceUptoCardSaid : Prop := Claim7.holds Tryd.pinned (.plain (OpenSpec.upto fnToValidTwiceSpec)) fnToValidTwiceUptoCard

/-- THE SECOND FORM's CARD OF 'laws.FnFirst'. -/
def fnFirstUptoCard : Claim7 := { stood := { row := fnFirstUptoRow, standIns := [], harness := (true, "ab7f88db9e4e8edfa8a3dc02ee84cc00bcc9e8bd6e8937b4d7da816cfe6296db"), looks := false }, kinds := [], alts := [], laidByText := true, laidKinds := [.data, .pinned], laidTests := true, laidLooks := .later }
def FnFirstUptoCardSaid : Prop := Claim7.holds Tryd.pinned (.plain (OpenSpec.upto fnFirstSpec)) fnFirstUptoCard

/-- THE SECOND FORM's CARD OF 'laws.FnValidText'. -/
def fnValidTextUptoCard : Claim7 := { stood := { row := fnValidTextUptoRow, standIns := [], harness := (true, "ab7f88db9e4e8edfa8a3dc02ee84cc00bcc9e8bd6e8937b4d7da816cfe6296db"), looks := false }, kinds := [], alts := [], laidByText := true, laidKinds := [.data, .pinned], laidTests := true, laidLooks := .later }
def FnValidTextUptoCardSaid : Prop := Claim7.holds Tryd.pinned (.plain (OpenSpec.upto fnValidTextSpec)) fnValidTextUptoCard

/-- THE SECOND FORM's CARD OF 'laws.FnToValidByRange'. -/
def fnToValidByRangeUptoCard : Claim7 := { stood := { row := fnToValidByRangeUptoRow, standIns := [], harness := (true, "ab7f88db9e4e8edfa8a3dc02ee84cc00bcc9e8bd6e8937b4d7da816cfe6296db"), looks := false }, kinds := [], alts := [], laidByText := true, laidKinds := [.data, .pinned], laidTests := true, laidLooks := .later }
def FnToValidByRangeUptoCardSaid : Prop := Claim7.holds Tryd.pinned (.plain (OpenSpec.upto fnToValidByRangeSpec)) fnToValidByRangeUptoCard
end Rows
end Go.Proofs.YtcgpnmlemjldaaaDoor
