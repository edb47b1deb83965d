/-
  DERIVED. GIVEN WITH THE SEED: THE CARDS: each row of YtdcfbgpcpjjjaaaGreatDoorRows.lean that lists a variable, with what it lists TIED to the program's text (the seventh form; the later family's looks); each row that meets fmt, with fmt's text TOLD by the authors' own Lean function (tested against real Go, not proved from fmt's source: count such statements apart). THE CARD IS WHAT COUNTS. Prove the row's statement (the work); the ties are given (YtdcfbgpcpjjjaaaGreatDoorTie.lean); close each card by the builder's one call (the guide's Derived/Test/ToyasCard.lean, 'card_holds'). Laid BY PROGRAM, IN A SANDBOX (cutbox-door.mjs). By AI agents, Wed Nov 11 2026. No macro, syntax, notation, axiom, sorry.
-/
import Derived.Test.YtdcfbgpcpjjjaaaGreatDoorRows
import GoSem.ClaimSeven
namespace Go.Proofs.YtdcfbgpcpjjjaaaGreatDoor
namespace Rows

/-- THE TIED CARD OF 'laws.FnCoerceString'. -/
def fnCoerceStringCard : Claim7 := { stood := { row := fnCoerceStringRow, standIns := [], harness := (true, "3ada358db2f88bdfee824646cc87dfc34ba07721c83741e9d5a09ac581a2866a"), looks := true }, kinds := [], alts := [], laidByText := true, laidKinds := [.data, .data, .data, .data, .pinned, .pinned], laidTests := true, laidLooks := .later }
def FnCoerceStringCardSaid : Prop := Claim7.holds Tryz.pinned (.plain (OpenSpec.ofChange fnCoerceStringSpec)) fnCoerceStringCard

/-- THE TIED CARD OF 'laws.FnCoerceInt'. -/
def fnCoerceIntCard : Claim7 := { stood := { row := fnCoerceIntRow, standIns := [], harness := (true, "3ada358db2f88bdfee824646cc87dfc34ba07721c83741e9d5a09ac581a2866a"), looks := true }, kinds := [], alts := [], laidByText := true, laidKinds := [.data, .data, .widerDeep, .widerDeep, .data, .data, .data, .data, .data, .sentinel, .sentinel, .pinned, .pinned], laidTests := true, laidLooks := .later }
def FnCoerceIntCardSaid : Prop := Claim7.holds Tryz.pinned (.plain (OpenSpec.ofChange fnCoerceIntSpec)) fnCoerceIntCard

/-- THE SECOND FORM's CARD OF 'laws.FnCoerceString'. -/
def fnCoerceStringUptoCard : Claim7 := { stood := { row := fnCoerceStringUptoRow, standIns := [], harness := (true, "3ada358db2f88bdfee824646cc87dfc34ba07721c83741e9d5a09ac581a2866a"), looks := true }, kinds := [], alts := [], laidByText := true, laidKinds := [.data, .data, .data, .data, .pinned, .pinned], laidTests := true, laidLooks := .later }
def FnCoerceStringUptoCardSaid : Prop := Claim7.holds Tryz.pinned (.plain (OpenSpec.upto fnCoerceStringSpec)) fnCoerceStringUptoCard

/-- THE SECOND FORM's CARD OF 'laws.FnCoerceInt'. -/
def fnCoerceIntUptoCard : Claim7 := { stood := { row := fnCoerceIntUptoRow, standIns := [], harness := (true, "3ada358db2f88bdfee824646cc87dfc34ba07721c83741e9d5a09ac581a2866a"), looks := true }, kinds := [], alts := [], laidByText := true, laidKinds := [.data, .data, .widerDeep, .widerDeep, .data, .data, .data, .data, .data, .sentinel, .sentinel, .pinned, .pinned], laidTests := true, laidLooks := .later }
def FnCoerceIntUptoCardSaid : Prop := Claim7.holds Tryz.pinned (.plain (OpenSpec.upto fnCoerceIntSpec)) fnCoerceIntUptoCard
end Rows
end Go.Proofs.YtdcfbgpcpjjjaaaGreatDoor
