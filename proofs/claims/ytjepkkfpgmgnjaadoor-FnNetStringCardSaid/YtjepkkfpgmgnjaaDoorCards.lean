/-
  DERIVED. GIVEN WITH THE SEED: THE CARDS: each row of YtjepkkfpgmgnjaaDoorRows.lean that lists a variable, with what it lists TIED to the program's text (the seventh form; the later family's looks); each row that meets fmt, with fmt's text TOLD by the authors' own Lean function (tested against real Go, not proved from fmt's source: count such statements apart). THE CARD IS WHAT COUNTS. Prove the row's statement (the work); the ties are given (YtjepkkfpgmgnjaaDoorTie.lean); close each card by the builder's one call (the guide's Derived/Test/ToyasCard.lean, 'card_holds'). Laid BY PROGRAM, IN A SANDBOX (cutbox-door.mjs). By AI agents, Wed Nov 11 2026. No macro, syntax, notation, axiom, sorry.
-/
import Derived.Test.YtjepkkfpgmgnjaaDoorRows
import GoSem.ClaimSeven
namespace Go.Proofs.YtjepkkfpgmgnjaaDoor
namespace Rows

/-- THE TIED CARD OF 'laws.FnNetString'. -/
def fnNetStringCard : Claim7 := { stood := { row := fnNetStringRow, standIns := [], harness := (true, "b4a44fcb8336cefdd3576e48ebb627744622177300ee02c7f9af5a9074ea61cb"), looks := false }, kinds := [], alts := [], laidByText := true, laidKinds := [.data, .data, .data, .called, .called, .zero], laidTests := true, laidLooks := .later }
def FnNetStringCardSaid : Prop := Claim7.holds Tryd.pinned (.plain (OpenSpec.ofChange fnNetStringSpec)) fnNetStringCard

/-- THE TIED CARD OF 'laws.FnRoadsContain'. -/
def fnRoadsContainCard : Claim7 := { stood := { row := fnRoadsContainRow, standIns := [], harness := (true, "b4a44fcb8336cefdd3576e48ebb627744622177300ee02c7f9af5a9074ea61cb"), looks := false }, kinds := [], alts := [], laidByText := true, laidKinds := [.called, .called, .widerDeep, .zero], laidTests := true, laidLooks := .later }
def FnRoadsContainCardSaid : Prop := Claim7.holds Tryd.pinned (.plain (OpenSpec.ofChange fnRoadsContainSpec)) fnRoadsContainCard

/-- THE TIED CARD OF 'laws.FnMarshalTextAll'. -/
def fnMarshalTextAllCard : Claim7 := { stood := { row := fnMarshalTextAllRow, standIns := [], harness := (true, "b4a44fcb8336cefdd3576e48ebb627744622177300ee02c7f9af5a9074ea61cb"), looks := false }, kinds := [], alts := [], laidByText := true, laidKinds := [.called, .called, .zero], laidTests := true, laidLooks := .later }
def FnMarshalTextAllCardSaid : Prop := Claim7.holds Tryd.pinned (.plain (OpenSpec.ofChange fnMarshalTextAllSpec)) fnMarshalTextAllCard

/-- THE TIED CARD OF 'laws.FnString'. -/
def fnStringCard : Claim7 := { stood := { row := fnStringRow, standIns := [], harness := (true, "b4a44fcb8336cefdd3576e48ebb627744622177300ee02c7f9af5a9074ea61cb"), looks := false }, kinds := [], alts := [], laidByText := true, laidKinds := [.called, .called, .zero], laidTests := true, laidLooks := .later }
def FnStringCardSaid : Prop := Claim7.holds Tryd.pinned (.plain (OpenSpec.ofChange fnStringSpec)) fnStringCard

/-- THE TIED CARD OF 'laws.FnStringAll'. -/
def fnStringAllCard : Claim7 := { stood := { row := fnStringAllRow, standIns := [], harness := (true, "b4a44fcb8336cefdd3576e48ebb627744622177300ee02c7f9af5a9074ea61cb"), looks := false }, kinds := [], alts := [], laidByText := true, laidKinds := [.called, .called, .zero], laidTests := true, laidLooks := .later }
def FnStringAllCardSaid : Prop := Claim7.holds Tryd.pinned (.plain (OpenSpec.ofChange fnStringAllSpec)) fnStringAllCard

/-- THE TIED CARD OF 'laws.FnStringOther'. -/
def fnStringOtherCard : Claim7 := { stood := { row := fnStringOtherRow, standIns := [], harness := (true, "b4a44fcb8336cefdd3576e48ebb627744622177300ee02c7f9af5a9074ea61cb"), looks := false }, kinds := [], alts := [], laidByText := true, laidKinds := [.called, .called, .zero], laidTests := true, laidLooks := .later }
def FnStringOtherCardSaid : Prop := Claim7.holds Tryd.pinned (.plain (OpenSpec.ofChange fnStringOtherSpec)) fnStringOtherCard

/-- THE TIED CARD OF 'laws.FnMarshalText'. -/
def fnMarshalTextCard : Claim7 := { stood := { row := fnMarshalTextRow, standIns := [], harness := (true, "b4a44fcb8336cefdd3576e48ebb627744622177300ee02c7f9af5a9074ea61cb"), looks := false }, kinds := [], alts := [], laidByText := true, laidKinds := [.called, .called, .zero], laidTests := true, laidLooks := .later }
def FnMarshalTextCardSaid : Prop := Claim7.holds Tryd.pinned (.plain (OpenSpec.ofChange fnMarshalTextSpec)) fnMarshalTextCard

/-- THE TIED CARD OF 'laws.FnRoadsString'. -/
def fnRoadsStringCard : Claim7 := { stood := { row := fnRoadsStringRow, standIns := [], harness := (true, "b4a44fcb8336cefdd3576e48ebb627744622177300ee02c7f9af5a9074ea61cb"), looks := false }, kinds := [], alts := [], laidByText := true, laidKinds := [.called, .called, .zero], laidTests := true, laidLooks := .later }
def FnRoadsStringCardSaid : Prop := Claim7.holds Tryd.pinned (.plain (OpenSpec.ofChange fnRoadsStringSpec)) fnRoadsStringCard

/-- THE TIED CARD OF 'laws.FnEqualStrings'. -/
def fnEqualStringsCard : Claim7 := { stood := { row := fnEqualStringsRow, standIns := [], harness := (true, "b4a44fcb8336cefdd3576e48ebb627744622177300ee02c7f9af5a9074ea61cb"), looks := false }, kinds := [], alts := [], laidByText := true, laidKinds := [.called, .called, .widerDeep, .zero], laidTests := true, laidLooks := .later }
def FnEqualStringsCardSaid : Prop := Claim7.holds Tryd.pinned (.plain (OpenSpec.ofChange fnEqualStringsSpec)) fnEqualStringsCard

/-- THE SECOND FORM's CARD OF 'laws.FnNetString'. -/
def fnNetStringUptoCard : Claim7 := { stood := { row := fnNetStringUptoRow, standIns := [], harness := (true, "b4a44fcb8336cefdd3576e48ebb627744622177300ee02c7f9af5a9074ea61cb"), looks := false }, kinds := [], alts := [], laidByText := true, laidKinds := [.data, .data, .data, .called, .called, .zero], laidTests := true, laidLooks := .later }
def FnNetStringUptoCardSaid : Prop := Claim7.holds Tryd.pinned (.plain (OpenSpec.upto fnNetStringSpec)) fnNetStringUptoCard

/-- THE SECOND FORM's CARD OF 'laws.FnRoadsContain'. -/
def fnRoadsContainUptoCard : Claim7 := { stood := { row := fnRoadsContainUptoRow, standIns := [], harness := (true, "b4a44fcb8336cefdd3576e48ebb627744622177300ee02c7f9af5a9074ea61cb"), looks := false }, kinds := [], alts := [], laidByText := true, laidKinds := [.called, .called, .widerDeep, .zero], laidTests := true, laidLooks := .later }
def FnRoadsContainUptoCardSaid : Prop := Claim7.holds Tryd.pinned (.plain (OpenSpec.upto fnRoadsContainSpec)) fnRoadsContainUptoCard

/-- THE SECOND FORM's CARD OF 'laws.FnMarshalTextAll'. -/
def fnMarshalTextAllUptoCard : Claim7 := { stood := { row := fnMarshalTextAllUptoRow, standIns := [], harness := (true, "b4a44fcb8336cefdd3576e48ebb627744622177300ee02c7f9af5a9074ea61cb"), looks := false }, kinds := [], alts := [], laidByText := true, laidKinds := [.called, .called, .zero], laidTests := true, laidLooks := .later }
def FnMarshalTextAllUptoCardSaid : Prop := Claim7.holds Tryd.pinned (.plain (OpenSpec.upto fnMarshalTextAllSpec)) fnMarshalTextAllUptoCard

/-- THE SECOND FORM's CARD OF 'laws.FnString'. -/
def fnStringUptoCard : Claim7 := { stood := { row := fnStringUptoRow, standIns := [], harness := (true, "b4a44fcb8336cefdd3576e48ebb627744622177300ee02c7f9af5a9074ea61cb"), looks := false }, kinds := [], alts := [], laidByText := true, laidKinds := [.called, .called, .zero], laidTests := true, laidLooks := .later }
def FnStringUptoCardSaid : Prop := Claim7.holds Tryd.pinned (.plain (OpenSpec.upto fnStringSpec)) fnStringUptoCard

/-- THE SECOND FORM's CARD OF 'laws.FnStringAll'. -/
def fnStringAllUptoCard : Claim7 := { stood := { row := fnStringAllUptoRow, standIns := [], harness := (true, "b4a44fcb8336cefdd3576e48ebb627744622177300ee02c7f9af5a9074ea61cb"), looks := false }, kinds := [], alts := [], laidByText := true, laidKinds := [.called, .called, .zero], laidTests := true, laidLooks := .later }
def FnStringAllUptoCardSaid : Prop := Claim7.holds Tryd.pinned (.plain (OpenSpec.upto fnStringAllSpec)) fnStringAllUptoCard

/-- THE SECOND FORM's CARD OF 'laws.FnStringOther'. -/
def fnStringOtherUptoCard : Claim7 := { stood := { row := fnStringOtherUptoRow, standIns := [], harness := (true, "b4a44fcb8336cefdd3576e48ebb627744622177300ee02c7f9af5a9074ea61cb"), looks := false }, kinds := [], alts := [], laidByText := true, laidKinds := [.called, .called, .zero], laidTests := true, laidLooks := .later }
def FnStringOtherUptoCardSaid : Prop := Claim7.holds Tryd.pinned (.plain (OpenSpec.upto fnStringOtherSpec)) fnStringOtherUptoCard

/-- THE SECOND FORM's CARD OF 'laws.FnMarshalText'. -/
def fnMarshalTextUptoCard : Claim7 := { stood := { row := fnMarshalTextUptoRow, standIns := [], harness := (true, "b4a44fcb8336cefdd3576e48ebb627744622177300ee02c7f9af5a9074ea61cb"), looks := false }, kinds := [], alts := [], laidByText := true, laidKinds := [.called, .called, .zero], laidTests := true, laidLooks := .later }
def FnMarshalTextUptoCardSaid : Prop := Claim7.holds Tryd.pinned (.plain (OpenSpec.upto fnMarshalTextSpec)) fnMarshalTextUptoCard

/-- THE SECOND FORM's CARD OF 'laws.FnRoadsString'. -/
def fnRoadsStringUptoCard : Claim7 := { stood := { row := fnRoadsStringUptoRow, standIns := [], harness := (true, "b4a44fcb8336cefdd3576e48ebb627744622177300ee02c7f9af5a9074ea61cb"), looks := false }, kinds := [], alts := [], laidByText := true, laidKinds := [.called, .called, .zero], laidTests := true, laidLooks := .later }
def FnRoadsStringUptoCardSaid : Prop := Claim7.holds Tryd.pinned (.plain (OpenSpec.upto fnRoadsStringSpec)) fnRoadsStringUptoCard

/-- THE SECOND FORM's CARD OF 'laws.FnEqualStrings'. -/
def fnEqualStringsUptoCard : Claim7 := { stood := { row := fnEqualStringsUptoRow, standIns := [], harness := (true, "b4a44fcb8336cefdd3576e48ebb627744622177300ee02c7f9af5a9074ea61cb"), looks := false }, kinds := [], alts := [], laidByText := true, laidKinds := [.called, .called, .widerDeep, .zero], laidTests := true, laidLooks := .later }
def FnEqualStringsUptoCardSaid : Prop := Claim7.holds Tryd.pinned (.plain (OpenSpec.upto fnEqualStringsSpec)) fnEqualStringsUptoCard
end Rows
end Go.Proofs.YtjepkkfpgmgnjaaDoor
