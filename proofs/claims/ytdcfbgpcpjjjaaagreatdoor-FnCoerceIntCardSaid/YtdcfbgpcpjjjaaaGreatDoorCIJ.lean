/-
  The closed facts of the row of FnCoerceInt.
-/
import Derived.Test.YtdcfbgpcpjjjaaaGreatDoorRows
import Derived.JoinedOf
import Derived.WalkKit
import Derived.SevenTiedAt
namespace Go.Proofs.YtdcfbgpcpjjjaaaGreatDoor.fnCoerceInt
open Go
theorem inPlaceWord : (Rows.fnCoerceIntRow.inPlace == Tryz.prog.inPlace 4) = true := by kernel_rfl
theorem unfollowedWord : (Rows.fnCoerceIntRow.unfollowed == Tryz.prog.unfollowed 4) = true := by kernel_rfl
theorem varsWord : (Rows.fnCoerceIntRow.named == Tryz.prog.varsNamed 4) = true := by kernel_rfl
theorem recursesWord : (Rows.fnCoerceIntRow.recurses == Tryz.prog.recurses 4) = true := by
  unfold Program.recurses
  rw [← (beq_iff_eq.1 unfollowedWord)]
  rfl
theorem joined : joinedFacts Tryz.prog 4 Tryz.f4 Rows.fnCoerceIntSpec Rows.fnCoerceIntRow = true := by
  unfold joinedFacts
  rw [inPlaceWord, unfollowedWord, recursesWord, varsWord]
  kernel_rfl
theorem wfWord : Rows.fnCoerceIntRow.wfByText (OpenSpec.ofChange Rows.fnCoerceIntSpec) = true := by kernel_rfl
theorem named : Tryz.prog.funcNamed "given.example/pub-versicle/laws.FnCoerceInt" = some 4 := by kernel_rfl
theorem goesWord : false = Rows.fnCoerceIntRow.goesBy Tryz.prog := by kernel_rfl
theorem mainWord : Tryz.prog.mainIs = some (true, "3ada358db2f88bdfee824646cc87dfc34ba07721c83741e9d5a09ac581a2866a".toList) := by kernel_rfl
theorem looksWord : true = Tryz.prog.looks [] := by kernel_rfl
end Go.Proofs.YtdcfbgpcpjjjaaaGreatDoor.fnCoerceInt
