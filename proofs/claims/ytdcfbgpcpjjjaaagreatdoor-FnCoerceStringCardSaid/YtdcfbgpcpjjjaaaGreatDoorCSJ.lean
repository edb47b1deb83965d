/-
  The closed facts of the row of FnCoerceString.
-/
import Derived.Test.YtdcfbgpcpjjjaaaGreatDoorRows
import Derived.JoinedOf
import Derived.WalkKit
import Derived.SevenTiedAt
namespace Go.Proofs.YtdcfbgpcpjjjaaaGreatDoor.fnCoerceString
open Go
theorem inPlaceWord : (Rows.fnCoerceStringRow.inPlace == Tryz.prog.inPlace 3) = true := by kernel_rfl
theorem unfollowedWord : (Rows.fnCoerceStringRow.unfollowed == Tryz.prog.unfollowed 3) = true := by kernel_rfl
theorem varsWord : (Rows.fnCoerceStringRow.named == Tryz.prog.varsNamed 3) = true := by kernel_rfl
theorem recursesWord : (Rows.fnCoerceStringRow.recurses == Tryz.prog.recurses 3) = true := by
  unfold Program.recurses
  rw [← (beq_iff_eq.1 unfollowedWord)]
  rfl
theorem joined : joinedFacts Tryz.prog 3 Tryz.f3 Rows.fnCoerceStringSpec Rows.fnCoerceStringRow = true := by
  unfold joinedFacts
  rw [inPlaceWord, unfollowedWord, recursesWord, varsWord]
  kernel_rfl
theorem wfWord : Rows.fnCoerceStringRow.wfByText (OpenSpec.ofChange Rows.fnCoerceStringSpec) = true := by kernel_rfl
theorem named : Tryz.prog.funcNamed "given.example/pub-versicle/laws.FnCoerceString" = some 3 := by kernel_rfl
theorem goesWord : false = Rows.fnCoerceStringRow.goesBy Tryz.prog := by kernel_rfl
theorem mainWord : Tryz.prog.mainIs = some (true, "3ada358db2f88bdfee824646cc87dfc34ba07721c83741e9d5a09ac581a2866a".toList) := by kernel_rfl
theorem looksWord : true = Tryz.prog.looks [] := by kernel_rfl
end Go.Proofs.YtdcfbgpcpjjjaaaGreatDoor.fnCoerceString
