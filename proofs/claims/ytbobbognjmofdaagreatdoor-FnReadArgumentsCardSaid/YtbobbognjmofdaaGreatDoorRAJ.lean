/-
  The closed facts of the row of FnReadArguments.
-/
import Derived.Test.YtbobbognjmofdaaGreatDoorRows
import Derived.JoinedOf
import Derived.WalkKit
import Derived.SevenTiedAt
namespace Go.Proofs.YtbobbognjmofdaaGreatDoor.fnReadArguments
open Go
theorem inPlaceWord : (Rows.fnReadArgumentsRow.inPlace == Tryz.prog.inPlace 8) = true := by kernel_rfl
theorem unfollowedWord : (Rows.fnReadArgumentsRow.unfollowed == Tryz.prog.unfollowed 8) = true := by kernel_rfl
theorem varsWord : (Rows.fnReadArgumentsRow.named == Tryz.prog.varsNamed 8) = true := by kernel_rfl
theorem recursesWord : (Rows.fnReadArgumentsRow.recurses == Tryz.prog.recurses 8) = true := by
  unfold Program.recurses
  rw [← (beq_iff_eq.1 unfollowedWord)]
  rfl
theorem joined : joinedFacts Tryz.prog 8 Tryz.f8 Rows.fnReadArgumentsSpec Rows.fnReadArgumentsRow = true := by
  unfold joinedFacts
  rw [inPlaceWord, unfollowedWord, recursesWord, varsWord]
  kernel_rfl
theorem wfWord : Rows.fnReadArgumentsRow.wfByText (OpenSpec.ofChange Rows.fnReadArgumentsSpec) = true := by kernel_rfl
theorem named : Tryz.prog.funcNamed "given.example/pub-versicle/laws.FnReadArguments" = some 8 := by kernel_rfl
theorem goesWord : false = Rows.fnReadArgumentsRow.goesBy Tryz.prog := by kernel_rfl
end Go.Proofs.YtbobbognjmofdaaGreatDoor.fnReadArguments
