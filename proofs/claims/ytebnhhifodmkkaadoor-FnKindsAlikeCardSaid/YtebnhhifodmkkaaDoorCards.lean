/-
  DERIVED. GIVEN WITH THE SEED: THE CARDS: each row of YtebnhhifodmkkaaDoorRows.lean that lists a variable, with what it lists TIED to the program's text (the seventh form; the later family's looks); each row that meets fmt, with fmt's text TOLD by the authors' own Lean function (tested against real Go, not proved from fmt's source: count such statements apart). THE CARD IS WHAT COUNTS. Prove the row's statement (the work); the ties are given (YtebnhhifodmkkaaDoorTie.lean); close each card by the builder's one call (the guide's Derived/Test/ToyasCard.lean, 'card_holds'). Laid BY PROGRAM, IN A SANDBOX (cutbox-door.mjs). By AI agents, Wed Nov 11 2026. No macro, syntax, notation, axiom, sorry.
-/
import Derived.Test.YtebnhhifodmkkaaDoorRows
import GoSem.ClaimSeven
namespace Go.Proofs.YtebnhhifodmkkaaDoor
namespace Rows

/-- THE TIED CARD OF 'laws.FnEqual'. -/
def fnEqualCard : Claim7 := { stood := { row := fnEqualRow, standIns := [], harness := (true, "b111b53da4c9c33c8c4a510d20a44072c1b4c38a22cbd9faf2d5f08b977c4661"), looks := false }, kinds := [], alts := [], laidByText := true, laidKinds := [.widerDeep], laidTests := true, laidLooks := .later }
def FnEqualCardSaid : Prop := Claim7.holds Tryd.pinned (.plain (OpenSpec.ofChange fnEqualSpec)) fnEqualCard

/-- THE TIED CARD OF 'laws.FnTo16'. -/
def fnTo16Card : Claim7 := { stood := { row := fnTo16Row, standIns := [], harness := (true, "b111b53da4c9c33c8c4a510d20a44072c1b4c38a22cbd9faf2d5f08b977c4661"), looks := false }, kinds := [], alts := [], laidByText := true, laidKinds := [.widerDeep], laidTests := true, laidLooks := .later }
def FnTo16CardSaid : Prop := Claim7.holds Tryd.pinned (.plain (OpenSpec.ofChange fnTo16Spec)) fnTo16Card

/-- THE TIED CARD OF 'laws.FnIPv4'. -/
def fnIPv4Card : Claim7 := { stood := { row := fnIPv4Row, standIns := [], harness := (true, "b111b53da4c9c33c8c4a510d20a44072c1b4c38a22cbd9faf2d5f08b977c4661"), looks := false }, kinds := [], alts := [], laidByText := true, laidKinds := [.widerDeep], laidTests := true, laidLooks := .later }
def FnIPv4CardSaid : Prop := Claim7.holds Tryd.pinned (.plain (OpenSpec.ofChange fnIPv4Spec)) fnIPv4Card

/-- THE TIED CARD OF 'laws.FnToAndBack'. -/
def fnToAndBackCard : Claim7 := { stood := { row := fnToAndBackRow, standIns := [], harness := (true, "b111b53da4c9c33c8c4a510d20a44072c1b4c38a22cbd9faf2d5f08b977c4661"), looks := false }, kinds := [], alts := [], laidByText := true, laidKinds := [.widerDeep], laidTests := true, laidLooks := .later }
def FnToAndBackCardSaid : Prop := Claim7.holds Tryd.pinned (.plain (OpenSpec.ofChange fnToAndBackSpec)) fnToAndBackCard

/-- THE TIED CARD OF 'laws.FnKindsAlike'. -/
def fnKindsAlikeCard : Claim7 := { stood := { row := fnKindsAlikeRow, standIns := [], harness := (true, "b111b53da4c9c33c8c4a510d20a44072c1b4c38a22cbd9faf2d5f08b977c4661"), looks := false }, kinds := [], alts := [], laidByText := true, laidKinds := [.widerDeep], laidTests := true, laidLooks := .later }
def FnKindsAlikeCardSaid : Prop := Claim7.holds Tryd.pinned (.plain (OpenSpec.ofChange fnKindsAlikeSpec)) fnKindsAlikeCard

/-- THE SECOND FORM's CARD OF 'laws.FnEqual'. -/
def fnEqualUptoCard : Claim7 := { stood := { row := fnEqualUptoRow, standIns := [], harness := (true, "b111b53da4c9c33c8c4a510d20a44072c1b4c38a22cbd9faf2d5f08b977c4661"), looks := false }, kinds := [], alts := [], laidByText := true, laidKinds := [.widerDeep], laidTests := true, laidLooks := .later }
def FnEqualUptoCardSaid : Prop := Claim7.holds Tryd.pinned (.plain (OpenSpec.upto fnEqualSpec)) fnEqualUptoCard

/-- THE SECOND FORM's CARD OF 'laws.FnTo16'. -/
def fnTo16UptoCard : Claim7 := { stood := { row := fnTo16UptoRow, standIns := [], harness := (true, "b111b53da4c9c33c8c4a510d20a44072c1b4c38a22cbd9faf2d5f08b977c4661"), looks := false }, kinds := [], alts := [], laidByText := true, laidKinds := [.widerDeep], laidTests := true, laidLooks := .later }
def FnTo16UptoCardSaid : Prop := Claim7.holds Tryd.pinned (.plain (OpenSpec.upto fnTo16Spec)) fnTo16UptoCard

/-- THE SECOND FORM's CARD OF 'laws.FnIPv4'. -/
def fnIPv4UptoCard : Claim7 := { stood := { row := fnIPv4UptoRow, standIns := [], harness := (true, "b111b53da4c9c33c8c4a510d20a44072c1b4c38a22cbd9faf2d5f08b977c4661"), looks := false }, kinds := [], alts := [], laidByText := true, laidKinds := [.widerDeep], laidTests := true, laidLooks := .later }
def FnIPv4UptoCardSaid : Prop := Claim7.holds Tryd.pinned (.plain (OpenSpec.upto fnIPv4Spec)) fnIPv4UptoCard

/-- THE SECOND FORM's CARD OF 'laws.FnToAndBack'. -/
def fnToAndBackUptoCard : Claim7 := { stood := { row := fnToAndBackUptoRow, standIns := [], harness := (true, "b111b53da4c9c33c8c4a510d20a44072c1b4c38a22cbd9faf2d5f08b977c4661"), looks := false }, kinds := [], alts := [], laidByText := true, laidKinds := [.widerDeep], laidTests := true, laidLooks := .later }
def FnToAndBackUptoCardSaid : Prop := Claim7.holds Tryd.pinned (.plain (OpenSpec.upto fnToAndBackSpec)) fnToAndBackUptoCard

/-- THE SECOND FORM's CARD OF 'laws.FnKindsAlike'. -/
def fnKindsAlikeUptoCard : Claim7 := { stood := { row := fnKindsAlikeUptoRow, standIns := [], harness := (true, "b111b53da4c9c33c8c4a510d20a44072c1b4c38a22cbd9faf2d5f08b977c4661"), looks := false }, kinds := [], alts := [], laidByText := true, laidKinds := [.widerDeep], laidTests := true, laidLooks := .later }
def FnKindsAlikeUptoCardSaid : Prop := Claim7.holds Tryd.pinned (.plain (OpenSpec.upto fnKindsAlikeSpec)) fnKindsAlikeUptoCard
end Rows
end Go.Proofs.YtebnhhifodmkkaaDoor
