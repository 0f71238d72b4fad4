/-
  DERIVED. GIVEN WITH THE SEED: THE CARDS: each row of YtphkohpphdcjhaaGreatDoorRows.lean that lists a variable, with what it lists TIED to the program's text (the seventh form; the later family's looks); each row that meets fmt, with fmt's text TOLD by the authors' own Lean function (tested against real Go, not proved from fmt's source: count such statements apart). THE CARD IS WHAT COUNTS. Prove the row's statement (the work); the ties are given (YtphkohpphdcjhaaGreatDoorTie.lean); close each card by the builder's one call (the guide's Derived/Test/ToyasCard.lean, 'card_holds'). Laid BY PROGRAM, IN A SANDBOX (cutbox-door.mjs). By AI agents, Wed Nov 11 2026. No macro, syntax, notation, axiom, sorry.
-/
import Derived.Test.YtphkohpphdcjhaaGreatDoorRows
import GoSem.ClaimSeven
namespace Go.Proofs.YtphkohpphdcjhaaGreatDoor
namespace Rows

/-- THE TIED CARD OF 'laws.FnParse'. -/
def fnParseCard : Claim7 := { stood := { row := fnParseRow, standIns := [], harness := (true, "c4ff9c904f9724c9ec23f345ad9c1db9ebe0a787f3f1c13e552b56f5e453792c"), looks := false }, kinds := [], alts := [], laidByText := true, laidKinds := [.data, .called, .called, .data, .zero, .pinned, .pinned], laidTests := true, laidLooks := .later }
def FnParseCardSaid : Prop := Claim7.holds Tryz.pinned (.plain (OpenSpec.ofChange fnParseSpec)) fnParseCard

/-- THE TIED CARD OF 'laws.FnEscaped'. -/
def fnEscapedCard : Claim7 := { stood := { row := fnEscapedRow, standIns := [], harness := (true, "c4ff9c904f9724c9ec23f345ad9c1db9ebe0a787f3f1c13e552b56f5e453792c"), looks := false }, kinds := [], alts := [], laidByText := true, laidKinds := [.data, .called, .called, .data, .zero, .pinned, .pinned], laidTests := true, laidLooks := .later }
def FnEscapedCardSaid : Prop := Claim7.holds Tryz.pinned (.plain (OpenSpec.ofChange fnEscapedSpec)) fnEscapedCard

/-- THE TIED CARD OF 'laws.FnAgain'. -/
def fnAgainCard : Claim7 := { stood := { row := fnAgainRow, standIns := [], harness := (true, "c4ff9c904f9724c9ec23f345ad9c1db9ebe0a787f3f1c13e552b56f5e453792c"), looks := false }, kinds := [], alts := [], laidByText := true, laidKinds := [.data, .called, .called, .data, .zero, .pinned, .pinned], laidTests := true, laidLooks := .later }
def FnAgainCardSaid : Prop := Claim7.holds Tryz.pinned (.plain (OpenSpec.ofChange fnAgainSpec)) fnAgainCard

/-- THE TIED CARD OF 'laws.FnText'. -/
def fnTextCard : Claim7 := { stood := { row := fnTextRow, standIns := [], harness := (true, "c4ff9c904f9724c9ec23f345ad9c1db9ebe0a787f3f1c13e552b56f5e453792c"), looks := false }, kinds := [], alts := [], laidByText := true, laidKinds := [.data, .called, .called, .data, .zero, .pinned, .pinned], laidTests := true, laidLooks := .later }
def FnTextCardSaid : Prop := Claim7.holds Tryz.pinned (.plain (OpenSpec.ofChange fnTextSpec)) fnTextCard

/-- THE TIED CARD OF 'laws.FnResolve'. -/
def fnResolveCard : Claim7 := { stood := { row := fnResolveRow, standIns := [], harness := (true, "c4ff9c904f9724c9ec23f345ad9c1db9ebe0a787f3f1c13e552b56f5e453792c"), looks := false }, kinds := [], alts := [], laidByText := true, laidKinds := [.data, .called, .called, .data, .zero, .pinned, .pinned], laidTests := true, laidLooks := .later }
def FnResolveCardSaid : Prop := Claim7.holds Tryz.pinned (.plain (OpenSpec.ofChange fnResolveSpec)) fnResolveCard

/-- THE TIED CARD OF 'laws.FnRedacted'. -/
def fnRedactedCard : Claim7 := { stood := { row := fnRedactedRow, standIns := [], harness := (true, "c4ff9c904f9724c9ec23f345ad9c1db9ebe0a787f3f1c13e552b56f5e453792c"), looks := false }, kinds := [], alts := [], laidByText := true, laidKinds := [.data, .called, .called, .data, .zero, .pinned, .pinned], laidTests := true, laidLooks := .later }
def FnRedactedCardSaid : Prop := Claim7.holds Tryz.pinned (.plain (OpenSpec.ofChange fnRedactedSpec)) fnRedactedCard

/-- THE TIED CARD OF 'laws.FnJoin'. -/
def fnJoinCard : Claim7 := { stood := { row := fnJoinRow, standIns := [], harness := (true, "c4ff9c904f9724c9ec23f345ad9c1db9ebe0a787f3f1c13e552b56f5e453792c"), looks := false }, kinds := [], alts := [], laidByText := true, laidKinds := [.data, .called, .called, .data, .zero, .pinned, .pinned], laidTests := true, laidLooks := .later }
def FnJoinCardSaid : Prop := Claim7.holds Tryz.pinned (.plain (OpenSpec.ofChange fnJoinSpec)) fnJoinCard

/-- THE TIED CARD OF 'laws.FnResolveText'. -/
def fnResolveTextCard : Claim7 := { stood := { row := fnResolveTextRow, standIns := [], harness := (true, "c4ff9c904f9724c9ec23f345ad9c1db9ebe0a787f3f1c13e552b56f5e453792c"), looks := false }, kinds := [], alts := [], laidByText := true, laidKinds := [.data, .called, .called, .data, .zero, .pinned, .pinned], laidTests := true, laidLooks := .later }
def FnResolveTextCardSaid : Prop := Claim7.holds Tryz.pinned (.plain (OpenSpec.ofChange fnResolveTextSpec)) fnResolveTextCard

/-- THE TIED CARD OF 'laws.FnJoinText'. -/
def fnJoinTextCard : Claim7 := { stood := { row := fnJoinTextRow, standIns := [], harness := (true, "c4ff9c904f9724c9ec23f345ad9c1db9ebe0a787f3f1c13e552b56f5e453792c"), looks := false }, kinds := [], alts := [], laidByText := true, laidKinds := [.data, .called, .called, .data, .zero, .pinned, .pinned], laidTests := true, laidLooks := .later }
def FnJoinTextCardSaid : Prop := Claim7.holds Tryz.pinned (.plain (OpenSpec.ofChange fnJoinTextSpec)) fnJoinTextCard

/-- THE SECOND FORM's CARD OF 'laws.FnParse'. -/
def fnParseUptoCard : Claim7 := { stood := { row := fnParseUptoRow, standIns := [], harness := (true, "c4ff9c904f9724c9ec23f345ad9c1db9ebe0a787f3f1c13e552b56f5e453792c"), looks := false }, kinds := [], alts := [], laidByText := true, laidKinds := [.data, .called, .called, .data, .zero, .pinned, .pinned], laidTests := true, laidLooks := .later }
def FnParseUptoCardSaid : Prop := Claim7.holds Tryz.pinned (.plain (OpenSpec.upto fnParseSpec)) fnParseUptoCard

/-- THE SECOND FORM's CARD OF 'laws.FnEscaped'. -/
def fnEscapedUptoCard : Claim7 := { stood := { row := fnEscapedUptoRow, standIns := [], harness := (true, "c4ff9c904f9724c9ec23f345ad9c1db9ebe0a787f3f1c13e552b56f5e453792c"), looks := false }, kinds := [], alts := [], laidByText := true, laidKinds := [.data, .called, .called, .data, .zero, .pinned, .pinned], laidTests := true, laidLooks := .later }
def FnEscapedUptoCardSaid : Prop := Claim7.holds Tryz.pinned (.plain (OpenSpec.upto fnEscapedSpec)) fnEscapedUptoCard

/-- THE SECOND FORM's CARD OF 'laws.FnAgain'. -/
def fnAgainUptoCard : Claim7 := { stood := { row := fnAgainUptoRow, standIns := [], harness := (true, "c4ff9c904f9724c9ec23f345ad9c1db9ebe0a787f3f1c13e552b56f5e453792c"), looks := false }, kinds := [], alts := [], laidByText := true, laidKinds := [.data, .called, .called, .data, .zero, .pinned, .pinned], laidTests := true, laidLooks := .later }
def FnAgainUptoCardSaid : Prop := Claim7.holds Tryz.pinned (.plain (OpenSpec.upto fnAgainSpec)) fnAgainUptoCard

/-- THE SECOND FORM's CARD OF 'laws.FnText'. -/
def fnTextUptoCard : Claim7 := { stood := { row := fnTextUptoRow, standIns := [], harness := (true, "c4ff9c904f9724c9ec23f345ad9c1db9ebe0a787f3f1c13e552b56f5e453792c"), looks := false }, kinds := [], alts := [], laidByText := true, laidKinds := [.data, .called, .called, .data, .zero, .pinned, .pinned], laidTests := true, laidLooks := .later }
def FnTextUptoCardSaid : Prop := Claim7.holds Tryz.pinned (.plain (OpenSpec.upto fnTextSpec)) fnTextUptoCard

/-- THE SECOND FORM's CARD OF 'laws.FnResolve'. -/
def fnResolveUptoCard : Claim7 := { stood := { row := fnResolveUptoRow, standIns := [], harness := (true, "c4ff9c904f9724c9ec23f345ad9c1db9ebe0a787f3f1c13e552b56f5e453792c"), looks := false }, kinds := [], alts := [], laidByText := true, laidKinds := [.data, .called, .called, .data, .zero, .pinned, .pinned], laidTests := true, laidLooks := .later }
def FnResolveUptoCardSaid : Prop := Claim7.holds Tryz.pinned (.plain (OpenSpec.upto fnResolveSpec)) fnResolveUptoCard

/-- THE SECOND FORM's CARD OF 'laws.FnRedacted'. -/
def fnRedactedUptoCard : Claim7 := { stood := { row := fnRedactedUptoRow, standIns := [], harness := (true, "c4ff9c904f9724c9ec23f345ad9c1db9ebe0a787f3f1c13e552b56f5e453792c"), looks := false }, kinds := [], alts := [], laidByText := true, laidKinds := [.data, .called, .called, .data, .zero, .pinned, .pinned], laidTests := true, laidLooks := .later }
def FnRedactedUptoCardSaid : Prop := Claim7.holds Tryz.pinned (.plain (OpenSpec.upto fnRedactedSpec)) fnRedactedUptoCard

/-- THE SECOND FORM's CARD OF 'laws.FnJoin'. -/
def fnJoinUptoCard : Claim7 := { stood := { row := fnJoinUptoRow, standIns := [], harness := (true, "c4ff9c904f9724c9ec23f345ad9c1db9ebe0a787f3f1c13e552b56f5e453792c"), looks := false }, kinds := [], alts := [], laidByText := true, laidKinds := [.data, .called, .called, .data, .zero, .pinned, .pinned], laidTests := true, laidLooks := .later }
def FnJoinUptoCardSaid : Prop := Claim7.holds Tryz.pinned (.plain (OpenSpec.upto fnJoinSpec)) fnJoinUptoCard

/-- THE SECOND FORM's CARD OF 'laws.FnResolveText'. -/
def fnResolveTextUptoCard : Claim7 := { stood := { row := fnResolveTextUptoRow, standIns := [], harness := (true, "c4ff9c904f9724c9ec23f345ad9c1db9ebe0a787f3f1c13e552b56f5e453792c"), looks := false }, kinds := [], alts := [], laidByText := true, laidKinds := [.data, .called, .called, .data, .zero, .pinned, .pinned], laidTests := true, laidLooks := .later }
def FnResolveTextUptoCardSaid : Prop := Claim7.holds Tryz.pinned (.plain (OpenSpec.upto fnResolveTextSpec)) fnResolveTextUptoCard

/-- THE SECOND FORM's CARD OF 'laws.FnJoinText'. -/
def fnJoinTextUptoCard : Claim7 := { stood := { row := fnJoinTextUptoRow, standIns := [], harness := (true, "c4ff9c904f9724c9ec23f345ad9c1db9ebe0a787f3f1c13e552b56f5e453792c"), looks := false }, kinds := [], alts := [], laidByText := true, laidKinds := [.data, .called, .called, .data, .zero, .pinned, .pinned], laidTests := true, laidLooks := .later }
def FnJoinTextUptoCardSaid : Prop := Claim7.holds Tryz.pinned (.plain (OpenSpec.upto fnJoinTextSpec)) fnJoinTextUptoCard
end Rows
end Go.Proofs.YtphkohpphdcjhaaGreatDoor
