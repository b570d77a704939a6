/-
  DERIVED. GIVEN WITH THE SEED: THE CARDS: each row of YtkabdfmcflkkoaaDoorRows.lean that lists a variable, with what it lists TIED to the program's text (the seventh form; the later family's looks); each row that meets fmt, with fmt's text TOLD by the authors' own Lean function (tested against real Go, not proved from fmt's source: count such statements apart). THE CARD IS WHAT COUNTS. Prove the row's statement (the work); the ties are given (YtkabdfmcflkkoaaDoorTie.lean); close each card by the builder's one call (the guide's Derived/Test/ToyasCard.lean, 'card_holds'). Laid BY PROGRAM, IN A SANDBOX (cutbox-door.mjs). By AI agents, Wed Nov 11 2026. No macro, syntax, notation, axiom, sorry.
-/
import Derived.Test.YtkabdfmcflkkoaaDoorRows
import GoSem.ClaimSeven
namespace Go.Proofs.YtkabdfmcflkkoaaDoor
namespace Rows

/-- THE TIED CARD OF 'laws.FnMask'. -/
def fnMaskCard : Claim7 := { stood := { row := fnMaskRow, standIns := [], harness := (true, "ffe971169a895de55be13bd5bd0000f19970eadc7accc6134d9742972d3078ab"), looks := false }, kinds := [], alts := [], laidByText := true, laidKinds := [.widerDeep], laidTests := true, laidLooks := .later }
def FnMaskCardSaid : Prop := Claim7.holds Tryd.pinned (.plain (OpenSpec.ofChange fnMaskSpec)) fnMaskCard

/-- THE TIED CARD OF 'laws.FnMaskAll'. -/
def fnMaskAllCard : Claim7 := { stood := { row := fnMaskAllRow, standIns := [], harness := (true, "ffe971169a895de55be13bd5bd0000f19970eadc7accc6134d9742972d3078ab"), looks := false }, kinds := [], alts := [], laidByText := true, laidKinds := [.widerDeep], laidTests := true, laidLooks := .later }
def FnMaskAllCardSaid : Prop := Claim7.holds Tryd.pinned (.plain (OpenSpec.ofChange fnMaskAllSpec)) fnMaskAllCard

/-- THE TIED CARD OF 'laws.FnMaskTwice'. -/
def fnMaskTwiceCard : Claim7 := { stood := { row := fnMaskTwiceRow, standIns := [], harness := (true, "ffe971169a895de55be13bd5bd0000f19970eadc7accc6134d9742972d3078ab"), looks := false }, kinds := [], alts := [], laidByText := true, laidKinds := [.widerDeep], laidTests := true, laidLooks := .later }
def FnMaskTwiceCardSaid : Prop := Claim7.holds Tryd.pinned (.plain (OpenSpec.ofChange fnMaskTwiceSpec)) fnMaskTwiceCard

/-- THE TIED CARD OF 'laws.FnMaskKeeps'. -/
def fnMaskKeepsCard : Claim7 := { stood := { row := fnMaskKeepsRow, standIns := [], harness := (true, "ffe971169a895de55be13bd5bd0000f19970eadc7accc6134d9742972d3078ab"), looks := false }, kinds := [], alts := [], laidByText := true, laidKinds := [.widerDeep], laidTests := true, laidLooks := .later }
def FnMaskKeepsCardSaid : Prop := Claim7.holds Tryd.pinned (.plain (OpenSpec.ofChange fnMaskKeepsSpec)) fnMaskKeepsCard

/-- THE TIED CARD OF 'laws.FnMasksNested'. -/
def fnMasksNestedCard : Claim7 := { stood := { row := fnMasksNestedRow, standIns := [], harness := (true, "ffe971169a895de55be13bd5bd0000f19970eadc7accc6134d9742972d3078ab"), looks := false }, kinds := [], alts := [], laidByText := true, laidKinds := [.widerDeep], laidTests := true, laidLooks := .later }
def FnMasksNestedCardSaid : Prop := Claim7.holds Tryd.pinned (.plain (OpenSpec.ofChange fnMasksNestedSpec)) fnMasksNestedCard

/-- THE TIED CARD OF 'laws.FnNetContainsItself'. -/
def fnNetContainsItselfCard : Claim7 := { stood := { row := fnNetContainsItselfRow, standIns := [], harness := (true, "ffe971169a895de55be13bd5bd0000f19970eadc7accc6134d9742972d3078ab"), looks := false }, kinds := [], alts := [], laidByText := true, laidKinds := [.widerDeep], laidTests := true, laidLooks := .later }
def FnNetContainsItselfCardSaid : Prop := Claim7.holds Tryd.pinned (.plain (OpenSpec.ofChange fnNetContainsItselfSpec)) fnNetContainsItselfCard

/-- THE SECOND FORM's CARD OF 'laws.FnMask'. -/
def fnMaskUptoCard : Claim7 := { stood := { row := fnMaskUptoRow, standIns := [], harness := (true, "ffe971169a895de55be13bd5bd0000f19970eadc7accc6134d9742972d3078ab"), looks := false }, kinds := [], alts := [], laidByText := true, laidKinds := [.widerDeep], laidTests := true, laidLooks := .later }
def FnMaskUptoCardSaid : Prop := Claim7.holds Tryd.pinned (.plain (OpenSpec.upto fnMaskSpec)) fnMaskUptoCard

/-- THE SECOND FORM's CARD OF 'laws.FnMaskAll'. -/
def fnMaskAllUptoCard : Claim7 := { stood := { row := fnMaskAllUptoRow, standIns := [], harness := (true, "ffe971169a895de55be13bd5bd0000f19970eadc7accc6134d9742972d3078ab"), looks := false }, kinds := [], alts := [], laidByText := true, laidKinds := [.widerDeep], laidTests := true, laidLooks := .later }
def FnMaskAllUptoCardSaid : Prop := Claim7.holds Tryd.pinned (.plain (OpenSpec.upto fnMaskAllSpec)) fnMaskAllUptoCard

/-- THE SECOND FORM's CARD OF 'laws.FnMaskTwice'. -/
def fnMaskTwiceUptoCard : Claim7 := { stood := { row := fnMaskTwiceUptoRow, standIns := [], harness := (true, "ffe971169a895de55be13bd5bd0000f19970eadc7accc6134d9742972d3078ab"), looks := false }, kinds := [], alts := [], laidByText := true, laidKinds := [.widerDeep], laidTests := true, laidLooks := .later }
def FnMaskTwiceUptoCardSaid : Prop := Claim7.holds Tryd.pinned (.plain (OpenSpec.upto fnMaskTwiceSpec)) fnMaskTwiceUptoCard

/-- THE SECOND FORM's CARD OF 'laws.FnMaskKeeps'. -/
def fnMaskKeepsUptoCard : Claim7 := { stood := { row := fnMaskKeepsUptoRow, standIns := [], harness := (true, "ffe971169a895de55be13bd5bd0000f19970eadc7accc6134d9742972d3078ab"), looks := false }, kinds := [], alts := [], laidByText := true, laidKinds := [.widerDeep], laidTests := true, laidLooks := .later }
def FnMaskKeepsUptoCardSaid : Prop := Claim7.holds Tryd.pinned (.plain (OpenSpec.upto fnMaskKeepsSpec)) fnMaskKeepsUptoCard

/-- THE SECOND FORM's CARD OF 'laws.FnMasksNested'. -/
def fnMasksNestedUptoCard : Claim7 := { stood := { row := fnMasksNestedUptoRow, standIns := [], harness := (true, "ffe971169a895de55be13bd5bd0000f19970eadc7accc6134d9742972d3078ab"), looks := false }, kinds := [], alts := [], laidByText := true, laidKinds := [.widerDeep], laidTests := true, laidLooks := .later }
def FnMasksNestedUptoCardSaid : Prop := Claim7.holds Tryd.pinned (.plain (OpenSpec.upto fnMasksNestedSpec)) fnMasksNestedUptoCard

/-- THE SECOND FORM's CARD OF 'laws.FnNetContainsItself'. -/
def fnNetContainsItselfUptoCard : Claim7 := { stood := { row := fnNetContainsItselfUptoRow, standIns := [], harness := (true, "ffe971169a895de55be13bd5bd0000f19970eadc7accc6134d9742972d3078ab"), looks := false }, kinds := [], alts := [], laidByText := true, laidKinds := [.widerDeep], laidTests := true, laidLooks := .later }
def FnNetContainsItselfUptoCardSaid : Prop := Claim7.holds Tryd.pinned (.plain (OpenSpec.upto fnNetContainsItselfSpec)) fnNetContainsItselfUptoCard
end Rows
end Go.Proofs.YtkabdfmcflkkoaaDoor
