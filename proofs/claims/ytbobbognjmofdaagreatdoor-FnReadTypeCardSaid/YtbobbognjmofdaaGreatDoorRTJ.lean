/-
  The closed facts of the row of FnReadType.
-/
import Derived.Test.YtbobbognjmofdaaGreatDoorRows
import Derived.JoinedOf
import Derived.WalkKit
import Derived.SevenTiedAt
namespace Go.Proofs.YtbobbognjmofdaaGreatDoor.fnReadType
open Go
theorem inPlaceWord : (Rows.fnReadTypeRow.inPlace == Tryz.prog.inPlace 6) = true := by kernel_rfl
theorem unfollowedWord : (Rows.fnReadTypeRow.unfollowed == Tryz.prog.unfollowed 6) = true := by kernel_rfl
theorem varsWord : (Rows.fnReadTypeRow.named == Tryz.prog.varsNamed 6) = true := by kernel_rfl
theorem recursesWord : (Rows.fnReadTypeRow.recurses == Tryz.prog.recurses 6) = true := by
  unfold Program.recurses
  rw [← (beq_iff_eq.1 unfollowedWord)]
  rfl
theorem joined : joinedFacts Tryz.prog 6 Tryz.f6 Rows.fnReadTypeSpec Rows.fnReadTypeRow = true := by
  unfold joinedFacts
  rw [inPlaceWord, unfollowedWord, recursesWord, varsWord]
  kernel_rfl
theorem wfWord : Rows.fnReadTypeRow.wfByText (OpenSpec.ofChange Rows.fnReadTypeSpec) = true := by kernel_rfl
theorem named : Tryz.prog.funcNamed "given.example/pub-versicle/laws.FnReadType" = some 6 := by kernel_rfl
theorem goesWord : false = Rows.fnReadTypeRow.goesBy Tryz.prog := by kernel_rfl
end Go.Proofs.YtbobbognjmofdaaGreatDoor.fnReadType
