/-
  DERIVED. GIVEN WITH THE SEED: THE CARDS: each row of YtbobbognjmofdaaGreatDoorRows.lean that lists a variable, with what it lists TIED to the program's text (the seventh form; the later family's looks); each row that meets fmt, with fmt's text TOLD by the authors' own Lean function (tested against real Go, not proved from fmt's source: count such statements apart). THE CARD IS WHAT COUNTS. Prove the row's statement (the work); the ties are given (YtbobbognjmofdaaGreatDoorTie.lean); close each card by the builder's one call (the guide's Derived/Test/ToyasCard.lean, 'card_holds'). Laid BY PROGRAM, IN A SANDBOX (cutbox-door.mjs). By AI agents, Wed Nov 11 2026. No macro, syntax, notation, axiom, sorry.
-/
import Derived.Test.YtbobbognjmofdaaGreatDoorRows
import GoSem.ClaimSeven
namespace Go.Proofs.YtbobbognjmofdaaGreatDoor
namespace Rows

/-- THE TIED CARD OF 'laws.FnReadString'. -/
def fnReadStringCard : Claim7 := { stood := { row := fnReadStringRow, standIns := [], harness := (true, "4d3a154d9c40602aa8772a587e3441a2ca01b51e6fee9d03f0f923265ccfb161"), looks := true }, kinds := [], alts := [], laidByText := true, laidKinds := [.data, .sentinel, .pinned], laidTests := true, laidLooks := .later }
def FnReadStringCardSaid : Prop := Claim7.holds Tryz.pinned (.plain (OpenSpec.ofChange fnReadStringSpec)) fnReadStringCard

/-- THE TIED CARD OF 'laws.FnNext'. -/
def fnNextCard : Claim7 := { stood := { row := fnNextRow, standIns := [], harness := (true, "4d3a154d9c40602aa8772a587e3441a2ca01b51e6fee9d03f0f923265ccfb161"), looks := true }, kinds := [], alts := [], laidByText := true, laidKinds := [.data, .sentinel, .pinned], laidTests := true, laidLooks := .later }
def FnNextCardSaid : Prop := Claim7.holds Tryz.pinned (.plain (OpenSpec.ofChange fnNextSpec)) fnNextCard

/-- THE TIED CARD OF 'laws.FnTokens'. -/
def fnTokensCard : Claim7 := { stood := { row := fnTokensRow, standIns := [], harness := (true, "4d3a154d9c40602aa8772a587e3441a2ca01b51e6fee9d03f0f923265ccfb161"), looks := true }, kinds := [], alts := [], laidByText := true, laidKinds := [.data, .sentinel, .pinned], laidTests := true, laidLooks := .later }
def FnTokensCardSaid : Prop := Claim7.holds Tryz.pinned (.plain (OpenSpec.ofChange fnTokensSpec)) fnTokensCard

/-- THE TIED CARD OF 'laws.FnReadType'. -/
def fnReadTypeCard : Claim7 := { stood := { row := fnReadTypeRow, standIns := [], harness := (true, "4d3a154d9c40602aa8772a587e3441a2ca01b51e6fee9d03f0f923265ccfb161"), looks := true }, kinds := [], alts := [], laidByText := true, laidKinds := [.data, .sentinel, .pinned], laidTests := true, laidLooks := .later }
def FnReadTypeCardSaid : Prop := Claim7.holds Tryz.pinned (.plain (OpenSpec.ofChange fnReadTypeSpec)) fnReadTypeCard

/-- THE TIED CARD OF 'laws.FnParseValue'. -/
def fnParseValueCard : Claim7 := { stood := { row := fnParseValueRow, standIns := [], harness := (true, "4d3a154d9c40602aa8772a587e3441a2ca01b51e6fee9d03f0f923265ccfb161"), looks := true }, kinds := [], alts := [], laidByText := true, laidKinds := [.data, .sentinel, .pinned], laidTests := true, laidLooks := .later }
def FnParseValueCardSaid : Prop := Claim7.holds Tryz.pinned (.plain (OpenSpec.ofChange fnParseValueSpec)) fnParseValueCard

/-- THE TIED CARD OF 'laws.FnReadArguments'. -/
def fnReadArgumentsCard : Claim7 := { stood := { row := fnReadArgumentsRow, standIns := [], harness := (true, "4d3a154d9c40602aa8772a587e3441a2ca01b51e6fee9d03f0f923265ccfb161"), looks := true }, kinds := [], alts := [], laidByText := true, laidKinds := [.data, .sentinel, .pinned], laidTests := true, laidLooks := .later }
def FnReadArgumentsCardSaid : Prop := Claim7.holds Tryz.pinned (.plain (OpenSpec.ofChange fnReadArgumentsSpec)) fnReadArgumentsCard

/-- THE TIED CARD OF 'laws.FnPieceValues'. -/
def fnPieceValuesCard : Claim7 := { stood := { row := fnPieceValuesRow, standIns := [], harness := (true, "4d3a154d9c40602aa8772a587e3441a2ca01b51e6fee9d03f0f923265ccfb161"), looks := true }, kinds := [], alts := [], laidByText := true, laidKinds := [.data, .sentinel, .pinned], laidTests := true, laidLooks := .later }
def FnPieceValuesCardSaid : Prop := Claim7.holds Tryz.pinned (.plain (OpenSpec.ofChange fnPieceValuesSpec)) fnPieceValuesCard

/-- THE SECOND FORM's CARD OF 'laws.FnReadString'. -/
def fnReadStringUptoCard : Claim7 := { stood := { row := fnReadStringUptoRow, standIns := [], harness := (true, "4d3a154d9c40602aa8772a587e3441a2ca01b51e6fee9d03f0f923265ccfb161"), looks := true }, kinds := [], alts := [], laidByText := true, laidKinds := [.data, .sentinel, .pinned], laidTests := true, laidLooks := .later }
def FnReadStringUptoCardSaid : Prop := Claim7.holds Tryz.pinned (.plain (OpenSpec.upto fnReadStringSpec)) fnReadStringUptoCard

/-- THE SECOND FORM's CARD OF 'laws.FnNext'. -/
def fnNextUptoCard : Claim7 := { stood := { row := fnNextUptoRow, standIns := [], harness := (true, "4d3a154d9c40602aa8772a587e3441a2ca01b51e6fee9d03f0f923265ccfb161"), looks := true }, kinds := [], alts := [], laidByText := true, laidKinds := [.data, .sentinel, .pinned], laidTests := true, laidLooks := .later }
def FnNextUptoCardSaid : Prop := Claim7.holds Tryz.pinned (.plain (OpenSpec.upto fnNextSpec)) fnNextUptoCard

/-- THE SECOND FORM's CARD OF 'laws.FnTokens'. -/
def fnTokensUptoCard : Claim7 := { stood := { row := fnTokensUptoRow, standIns := [], harness := (true, "4d3a154d9c40602aa8772a587e3441a2ca01b51e6fee9d03f0f923265ccfb161"), looks := true }, kinds := [], alts := [], laidByText := true, laidKinds := [.data, .sentinel, .pinned], laidTests := true, laidLooks := .later }
def FnTokensUptoCardSaid : Prop := Claim7.holds Tryz.pinned (.plain (OpenSpec.upto fnTokensSpec)) fnTokensUptoCard

/-- THE SECOND FORM's CARD OF 'laws.FnReadType'. -/
def fnReadTypeUptoCard : Claim7 := { stood := { row := fnReadTypeUptoRow, standIns := [], harness := (true, "4d3a154d9c40602aa8772a587e3441a2ca01b51e6fee9d03f0f923265ccfb161"), looks := true }, kinds := [], alts := [], laidByText := true, laidKinds := [.data, .sentinel, .pinned], laidTests := true, laidLooks := .later }
def FnReadTypeUptoCardSaid : Prop := Claim7.holds Tryz.pinned (.plain (OpenSpec.upto fnReadTypeSpec)) fnReadTypeUptoCard

/-- THE SECOND FORM's CARD OF 'laws.FnParseValue'. -/
def fnParseValueUptoCard : Claim7 := { stood := { row := fnParseValueUptoRow, standIns := [], harness := (true, "4d3a154d9c40602aa8772a587e3441a2ca01b51e6fee9d03f0f923265ccfb161"), looks := true }, kinds := [], alts := [], laidByText := true, laidKinds := [.data, .sentinel, .pinned], laidTests := true, laidLooks := .later }
def FnParseValueUptoCardSaid : Prop := Claim7.holds Tryz.pinned (.plain (OpenSpec.upto fnParseValueSpec)) fnParseValueUptoCard

/-- THE SECOND FORM's CARD OF 'laws.FnReadArguments'. -/
def fnReadArgumentsUptoCard : Claim7 := { stood := { row := fnReadArgumentsUptoRow, standIns := [], harness := (true, "4d3a154d9c40602aa8772a587e3441a2ca01b51e6fee9d03f0f923265ccfb161"), looks := true }, kinds := [], alts := [], laidByText := true, laidKinds := [.data, .sentinel, .pinned], laidTests := true, laidLooks := .later }
def FnReadArgumentsUptoCardSaid : Prop := Claim7.holds Tryz.pinned (.plain (OpenSpec.upto fnReadArgumentsSpec)) fnReadArgumentsUptoCard

/-- THE SECOND FORM's CARD OF 'laws.FnPieceValues'. -/
def fnPieceValuesUptoCard : Claim7 := { stood := { row := fnPieceValuesUptoRow, standIns := [], harness := (true, "4d3a154d9c40602aa8772a587e3441a2ca01b51e6fee9d03f0f923265ccfb161"), looks := true }, kinds := [], alts := [], laidByText := true, laidKinds := [.data, .sentinel, .pinned], laidTests := true, laidLooks := .later }
def FnPieceValuesUptoCardSaid : Prop := Claim7.holds Tryz.pinned (.plain (OpenSpec.upto fnPieceValuesSpec)) fnPieceValuesUptoCard
end Rows
end Go.Proofs.YtbobbognjmofdaaGreatDoor
