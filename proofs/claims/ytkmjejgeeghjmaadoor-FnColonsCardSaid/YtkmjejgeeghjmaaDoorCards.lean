/-
  DERIVED. GIVEN WITH THE SEED: THE CARDS: each row of YtkmjejgeeghjmaaDoorRows.lean that lists a variable, with what it lists TIED to the program's text (the seventh form; the later family's looks); each row that meets fmt, with fmt's text TOLD by the authors' own Lean function (tested against real Go, not proved from fmt's source: count such statements apart). THE CARD IS WHAT COUNTS. Prove the row's statement (the work); the ties are given (YtkmjejgeeghjmaaDoorTie.lean); close each card by the builder's one call (the guide's Derived/Test/ToyasCard.lean, 'card_holds'). Laid BY PROGRAM, IN A SANDBOX (cutbox-door.mjs). By AI agents, Wed Nov 11 2026. No macro, syntax, notation, axiom, sorry.
-/
import Derived.Test.YtkmjejgeeghjmaaDoorRows
import GoSem.ClaimSeven
namespace Go.Proofs.YtkmjejgeeghjmaaDoor
namespace Rows

/-- THE TIED CARD OF 'laws.FnTextRoundTrip'. -/
def fnTextRoundTripCard : Claim7 := { stood := { row := fnTextRoundTripRow, standIns := [], harness := (true, "7e031f75bc5b6fc19ca1e983cfcbf0377cfc4b4a664c0bd8eb9bf024e3c5f261"), looks := false }, kinds := [], alts := [], laidByText := true, laidKinds := [.called, .called, .zero], laidTests := true, laidLooks := .later }
def FnTextRoundTripCardSaid : Prop := Claim7.holds Tryd.pinned (.plain (OpenSpec.ofChange fnTextRoundTripSpec)) fnTextRoundTripCard

/-- THE TIED CARD OF 'laws.FnJoinOfString'. -/
def fnJoinOfStringCard : Claim7 := { stood := { row := fnJoinOfStringRow, standIns := [], harness := (true, "7e031f75bc5b6fc19ca1e983cfcbf0377cfc4b4a664c0bd8eb9bf024e3c5f261"), looks := false }, kinds := [], alts := [], laidByText := true, laidKinds := [.called, .called, .zero], laidTests := true, laidLooks := .later }
def FnJoinOfStringCardSaid : Prop := Claim7.holds Tryd.pinned (.plain (OpenSpec.ofChange fnJoinOfStringSpec)) fnJoinOfStringCard

/-- THE TIED CARD OF 'laws.FnColons'. -/
def fnColonsCard : Claim7 := { stood := { row := fnColonsRow, standIns := [], harness := (true, "7e031f75bc5b6fc19ca1e983cfcbf0377cfc4b4a664c0bd8eb9bf024e3c5f261"), looks := false }, kinds := [], alts := [], laidByText := true, laidKinds := [.called, .called, .zero], laidTests := true, laidLooks := .later }
def FnColonsCardSaid : Prop := Claim7.holds Tryd.pinned (.plain (OpenSpec.ofChange fnColonsSpec)) fnColonsCard

/-- THE TIED CARD OF 'laws.FnMixedForm'. -/
def fnMixedFormCard : Claim7 := { stood := { row := fnMixedFormRow, standIns := [], harness := (true, "7e031f75bc5b6fc19ca1e983cfcbf0377cfc4b4a664c0bd8eb9bf024e3c5f261"), looks := false }, kinds := [], alts := [], laidByText := true, laidKinds := [.called, .called, .zero], laidTests := true, laidLooks := .later }
def FnMixedFormCardSaid : Prop := Claim7.holds Tryd.pinned (.plain (OpenSpec.ofChange fnMixedFormSpec)) fnMixedFormCard

/-- THE TIED CARD OF 'laws.FnZeroGroups'. -/
def fnZeroGroupsCard : Claim7 := { stood := { row := fnZeroGroupsRow, standIns := [], harness := (true, "7e031f75bc5b6fc19ca1e983cfcbf0377cfc4b4a664c0bd8eb9bf024e3c5f261"), looks := false }, kinds := [], alts := [], laidByText := true, laidKinds := [.called, .called, .zero], laidTests := true, laidLooks := .later }
def FnZeroGroupsCardSaid : Prop := Claim7.holds Tryd.pinned (.plain (OpenSpec.ofChange fnZeroGroupsSpec)) fnZeroGroupsCard

/-- THE TIED CARD OF 'laws.FnParseOfString'. -/
def fnParseOfStringCard : Claim7 := { stood := { row := fnParseOfStringRow, standIns := [], harness := (true, "7e031f75bc5b6fc19ca1e983cfcbf0377cfc4b4a664c0bd8eb9bf024e3c5f261"), looks := false }, kinds := [], alts := [], laidByText := true, laidKinds := [.called, .called, .zero], laidTests := true, laidLooks := .later }
def FnParseOfStringCardSaid : Prop := Claim7.holds Tryd.pinned (.plain (OpenSpec.ofChange fnParseOfStringSpec)) fnParseOfStringCard

/-- THE SECOND FORM's CARD OF 'laws.FnTextRoundTrip'. -/
def fnTextRoundTripUptoCard : Claim7 := { stood := { row := fnTextRoundTripUptoRow, standIns := [], harness := (true, "7e031f75bc5b6fc19ca1e983cfcbf0377cfc4b4a664c0bd8eb9bf024e3c5f261"), looks := false }, kinds := [], alts := [], laidByText := true, laidKinds := [.called, .called, .zero], laidTests := true, laidLooks := .later }
def FnTextRoundTripUptoCardSaid : Prop := Claim7.holds Tryd.pinned (.plain (OpenSpec.upto fnTextRoundTripSpec)) fnTextRoundTripUptoCard

/-- THE SECOND FORM's CARD OF 'laws.FnJoinOfString'. -/
def fnJoinOfStringUptoCard : Claim7 := { stood := { row := fnJoinOfStringUptoRow, standIns := [], harness := (true, "7e031f75bc5b6fc19ca1e983cfcbf0377cfc4b4a664c0bd8eb9bf024e3c5f261"), looks := false }, kinds := [], alts := [], laidByText := true, laidKinds := [.called, .called, .zero], laidTests := true, laidLooks := .later }
def FnJoinOfStringUptoCardSaid : Prop := Claim7.holds Tryd.pinned (.plain (OpenSpec.upto fnJoinOfStringSpec)) fnJoinOfStringUptoCard

/-- THE SECOND FORM's CARD OF 'laws.FnColons'. -/
def fnColonsUptoCard : Claim7 := { stood := { row := fnColonsUptoRow, standIns := [], harness := (true, "7e031f75bc5b6fc19ca1e983cfcbf0377cfc4b4a664c0bd8eb9bf024e3c5f261"), looks := false }, kinds := [], alts := [], laidByText := true, laidKinds := [.called, .called, .zero], laidTests := true, laidLooks := .later }
def FnColonsUptoCardSaid : Prop := Claim7.holds Tryd.pinned (.plain (OpenSpec.upto fnColonsSpec)) fnColonsUptoCard

/-- THE SECOND FORM's CARD OF 'laws.FnMixedForm'. -/
def fnMixedFormUptoCard : Claim7 := { stood := { row := fnMixedFormUptoRow, standIns := [], harness := (true, "7e031f75bc5b6fc19ca1e983cfcbf0377cfc4b4a664c0bd8eb9bf024e3c5f261"), looks := false }, kinds := [], alts := [], laidByText := true, laidKinds := [.called, .called, .zero], laidTests := true, laidLooks := .later }
def FnMixedFormUptoCardSaid : Prop := Claim7.holds Tryd.pinned (.plain (OpenSpec.upto fnMixedFormSpec)) fnMixedFormUptoCard

/-- THE SECOND FORM's CARD OF 'laws.FnZeroGroups'. -/
def fnZeroGroupsUptoCard : Claim7 := { stood := { row := fnZeroGroupsUptoRow, standIns := [], harness := (true, "7e031f75bc5b6fc19ca1e983cfcbf0377cfc4b4a664c0bd8eb9bf024e3c5f261"), looks := false }, kinds := [], alts := [], laidByText := true, laidKinds := [.called, .called, .zero], laidTests := true, laidLooks := .later }
def FnZeroGroupsUptoCardSaid : Prop := Claim7.holds Tryd.pinned (.plain (OpenSpec.upto fnZeroGroupsSpec)) fnZeroGroupsUptoCard

/-- THE SECOND FORM's CARD OF 'laws.FnParseOfString'. -/
def fnParseOfStringUptoCard : Claim7 := { stood := { row := fnParseOfStringUptoRow, standIns := [], harness := (true, "7e031f75bc5b6fc19ca1e983cfcbf0377cfc4b4a664c0bd8eb9bf024e3c5f261"), looks := false }, kinds := [], alts := [], laidByText := true, laidKinds := [.called, .called, .zero], laidTests := true, laidLooks := .later }
def FnParseOfStringUptoCardSaid : Prop := Claim7.holds Tryd.pinned (.plain (OpenSpec.upto fnParseOfStringSpec)) fnParseOfStringUptoCard
end Rows
end Go.Proofs.YtkmjejgeeghjmaaDoor
