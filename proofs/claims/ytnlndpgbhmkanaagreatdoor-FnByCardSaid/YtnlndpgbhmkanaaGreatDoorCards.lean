/-
  DERIVED. GIVEN WITH THE SEED: THE CARDS: each row of YtnlndpgbhmkanaaGreatDoorRows.lean that lists a variable, with what it lists TIED to the program's text (the seventh form; the later family's looks); each row that meets fmt, with fmt's text TOLD by the authors' own Lean function (tested against real Go, not proved from fmt's source: count such statements apart). THE CARD IS WHAT COUNTS. Prove the row's statement (the work); the ties are given (YtnlndpgbhmkanaaGreatDoorTie.lean); close each card by the builder's one call (the guide's Derived/Test/ToyasCard.lean, 'card_holds'). Laid BY PROGRAM, IN A SANDBOX (cutbox-door.mjs). By AI agents, Wed Nov 11 2026. No macro, syntax, notation, axiom, sorry.
-/
import Derived.Test.YtnlndpgbhmkanaaGreatDoorRows
import GoSem.ClaimSeven
namespace Go.Proofs.YtnlndpgbhmkanaaGreatDoor
namespace Rows

/-- THE TIED CARD OF 'laws.FnGetFold'. -/
def fnGetFoldCard : Claim7 := { stood := { row := fnGetFoldRow, standIns := [], harness := (true, "0bc4e6c4859ee16cd88a3fba78ef1ea7b20cfc47ccbfd900a9b659ae54eea260"), looks := true }, kinds := [], alts := [], laidByText := true, laidKinds := [.data, .data, .widerDeep, .widerDeep, .data, .data, .data, .data, .data, .data, .sentinel, .sentinel, .pinned, .pinned, .pinned], laidTests := true, laidLooks := .later }
def FnGetFoldCardSaid : Prop := Claim7.holds Tryz.pinned (.plain (OpenSpec.ofChange fnGetFoldSpec)) fnGetFoldCard

/-- THE TIED CARD OF 'laws.FnBy'. -/
def fnByCard : Claim7 := { stood := { row := fnByRow, standIns := [], harness := (true, "0bc4e6c4859ee16cd88a3fba78ef1ea7b20cfc47ccbfd900a9b659ae54eea260"), looks := true }, kinds := [], alts := [], laidByText := true, laidKinds := [.data, .data, .widerDeep, .widerDeep, .data, .data, .data, .data, .data, .data, .sentinel, .sentinel, .pinned, .pinned, .pinned], laidTests := true, laidLooks := .later }
def FnByCardSaid : Prop := Claim7.holds Tryz.pinned (.plain (OpenSpec.ofChange fnBySpec)) fnByCard

/-- THE TIED CARD OF 'laws.FnDivBack'. -/
def fnDivBackCard : Claim7 := { stood := { row := fnDivBackRow, standIns := [], harness := (true, "0bc4e6c4859ee16cd88a3fba78ef1ea7b20cfc47ccbfd900a9b659ae54eea260"), looks := true }, kinds := [], alts := [], laidByText := true, laidKinds := [.data, .data, .widerDeep, .widerDeep, .data, .data, .data, .data, .data, .data, .sentinel, .sentinel, .pinned, .pinned, .pinned], laidTests := true, laidLooks := .later }
def FnDivBackCardSaid : Prop := Claim7.holds Tryz.pinned (.plain (OpenSpec.ofChange fnDivBackSpec)) fnDivBackCard

/-- THE TIED CARD OF 'laws.FnSetTwice'. -/
def fnSetTwiceCard : Claim7 := { stood := { row := fnSetTwiceRow, standIns := [], harness := (true, "0bc4e6c4859ee16cd88a3fba78ef1ea7b20cfc47ccbfd900a9b659ae54eea260"), looks := true }, kinds := [], alts := [], laidByText := true, laidKinds := [.data, .data, .widerDeep, .widerDeep, .data, .data, .data, .data, .data, .data, .sentinel, .sentinel, .pinned, .pinned, .pinned], laidTests := true, laidLooks := .later }
def FnSetTwiceCardSaid : Prop := Claim7.holds Tryz.pinned (.plain (OpenSpec.ofChange fnSetTwiceSpec)) fnSetTwiceCard

/-- THE TIED CARD OF 'laws.FnHasNot'. -/
def fnHasNotCard : Claim7 := { stood := { row := fnHasNotRow, standIns := [], harness := (true, "0bc4e6c4859ee16cd88a3fba78ef1ea7b20cfc47ccbfd900a9b659ae54eea260"), looks := true }, kinds := [], alts := [], laidByText := true, laidKinds := [.data, .data, .widerDeep, .widerDeep, .data, .data, .data, .data, .data, .data, .sentinel, .sentinel, .pinned, .pinned, .pinned], laidTests := true, laidLooks := .later }
def FnHasNotCardSaid : Prop := Claim7.holds Tryz.pinned (.plain (OpenSpec.ofChange fnHasNotSpec)) fnHasNotCard

/-- THE TIED CARD OF 'laws.FnSetDelApart'. -/
def fnSetDelApartCard : Claim7 := { stood := { row := fnSetDelApartRow, standIns := [], harness := (true, "0bc4e6c4859ee16cd88a3fba78ef1ea7b20cfc47ccbfd900a9b659ae54eea260"), looks := true }, kinds := [], alts := [], laidByText := true, laidKinds := [.data, .data, .widerDeep, .widerDeep, .data, .data, .data, .data, .data, .data, .sentinel, .sentinel, .pinned, .pinned, .pinned], laidTests := true, laidLooks := .later }
def FnSetDelApartCardSaid : Prop := Claim7.holds Tryz.pinned (.plain (OpenSpec.ofChange fnSetDelApartSpec)) fnSetDelApartCard

/-- THE TIED CARD OF 'laws.FnJoin'. -/
def fnJoinCard : Claim7 := { stood := { row := fnJoinRow, standIns := [], harness := (true, "0bc4e6c4859ee16cd88a3fba78ef1ea7b20cfc47ccbfd900a9b659ae54eea260"), looks := true }, kinds := [], alts := [], laidByText := true, laidKinds := [.data, .data, .widerDeep, .widerDeep, .data, .data, .data, .data, .data, .data, .sentinel, .sentinel, .pinned, .pinned, .pinned], laidTests := true, laidLooks := .later }
def FnJoinCardSaid : Prop := Claim7.holds Tryz.pinned (.plain (OpenSpec.ofChange fnJoinSpec)) fnJoinCard

/-- THE SECOND FORM's CARD OF 'laws.FnGetFold'. -/
def fnGetFoldUptoCard : Claim7 := { stood := { row := fnGetFoldUptoRow, standIns := [], harness := (true, "0bc4e6c4859ee16cd88a3fba78ef1ea7b20cfc47ccbfd900a9b659ae54eea260"), looks := true }, kinds := [], alts := [], laidByText := true, laidKinds := [.data, .data, .widerDeep, .widerDeep, .data, .data, .data, .data, .data, .data, .sentinel, .sentinel, .pinned, .pinned, .pinned], laidTests := true, laidLooks := .later }
def FnGetFoldUptoCardSaid : Prop := Claim7.holds Tryz.pinned (.plain (OpenSpec.upto fnGetFoldSpec)) fnGetFoldUptoCard

/-- THE SECOND FORM's CARD OF 'laws.FnBy'. -/
def fnByUptoCard : Claim7 := { stood := { row := fnByUptoRow, standIns := [], harness := (true, "0bc4e6c4859ee16cd88a3fba78ef1ea7b20cfc47ccbfd900a9b659ae54eea260"), looks := true }, kinds := [], alts := [], laidByText := true, laidKinds := [.data, .data, .widerDeep, .widerDeep, .data, .data, .data, .data, .data, .data, .sentinel, .sentinel, .pinned, .pinned, .pinned], laidTests := true, laidLooks := .later }
def FnByUptoCardSaid : Prop := Claim7.holds Tryz.pinned (.plain (OpenSpec.upto fnBySpec)) fnByUptoCard

/-- THE SECOND FORM's CARD OF 'laws.FnDivBack'. -/
def fnDivBackUptoCard : Claim7 := { stood := { row := fnDivBackUptoRow, standIns := [], harness := (true, "0bc4e6c4859ee16cd88a3fba78ef1ea7b20cfc47ccbfd900a9b659ae54eea260"), looks := true }, kinds := [], alts := [], laidByText := true, laidKinds := [.data, .data, .widerDeep, .widerDeep, .data, .data, .data, .data, .data, .data, .sentinel, .sentinel, .pinned, .pinned, .pinned], laidTests := true, laidLooks := .later }
def FnDivBackUptoCardSaid : Prop := Claim7.holds Tryz.pinned (.plain (OpenSpec.upto fnDivBackSpec)) fnDivBackUptoCard

/-- THE SECOND FORM's CARD OF 'laws.FnSetTwice'. -/
def fnSetTwiceUptoCard : Claim7 := { stood := { row := fnSetTwiceUptoRow, standIns := [], harness := (true, "0bc4e6c4859ee16cd88a3fba78ef1ea7b20cfc47ccbfd900a9b659ae54eea260"), looks := true }, kinds := [], alts := [], laidByText := true, laidKinds := [.data, .data, .widerDeep, .widerDeep, .data, .data, .data, .data, .data, .data, .sentinel, .sentinel, .pinned, .pinned, .pinned], laidTests := true, laidLooks := .later }
def FnSetTwiceUptoCardSaid : Prop := Claim7.holds Tryz.pinned (.plain (OpenSpec.upto fnSetTwiceSpec)) fnSetTwiceUptoCard

/-- THE SECOND FORM's CARD OF 'laws.FnHasNot'. -/
def fnHasNotUptoCard : Claim7 := { stood := { row := fnHasNotUptoRow, standIns := [], harness := (true, "0bc4e6c4859ee16cd88a3fba78ef1ea7b20cfc47ccbfd900a9b659ae54eea260"), looks := true }, kinds := [], alts := [], laidByText := true, laidKinds := [.data, .data, .widerDeep, .widerDeep, .data, .data, .data, .data, .data, .data, .sentinel, .sentinel, .pinned, .pinned, .pinned], laidTests := true, laidLooks := .later }
def FnHasNotUptoCardSaid : Prop := Claim7.holds Tryz.pinned (.plain (OpenSpec.upto fnHasNotSpec)) fnHasNotUptoCard

/-- THE SECOND FORM's CARD OF 'laws.FnSetDelApart'. -/
def fnSetDelApartUptoCard : Claim7 := { stood := { row := fnSetDelApartUptoRow, standIns := [], harness := (true, "0bc4e6c4859ee16cd88a3fba78ef1ea7b20cfc47ccbfd900a9b659ae54eea260"), looks := true }, kinds := [], alts := [], laidByText := true, laidKinds := [.data, .data, .widerDeep, .widerDeep, .data, .data, .data, .data, .data, .data, .sentinel, .sentinel, .pinned, .pinned, .pinned], laidTests := true, laidLooks := .later }
def FnSetDelApartUptoCardSaid : Prop := Claim7.holds Tryz.pinned (.plain (OpenSpec.upto fnSetDelApartSpec)) fnSetDelApartUptoCard

/-- THE SECOND FORM's CARD OF 'laws.FnJoin'. -/
def fnJoinUptoCard : Claim7 := { stood := { row := fnJoinUptoRow, standIns := [], harness := (true, "0bc4e6c4859ee16cd88a3fba78ef1ea7b20cfc47ccbfd900a9b659ae54eea260"), looks := true }, kinds := [], alts := [], laidByText := true, laidKinds := [.data, .data, .widerDeep, .widerDeep, .data, .data, .data, .data, .data, .data, .sentinel, .sentinel, .pinned, .pinned, .pinned], laidTests := true, laidLooks := .later }
def FnJoinUptoCardSaid : Prop := Claim7.holds Tryz.pinned (.plain (OpenSpec.upto fnJoinSpec)) fnJoinUptoCard
end Rows
end Go.Proofs.YtnlndpgbhmkanaaGreatDoor
