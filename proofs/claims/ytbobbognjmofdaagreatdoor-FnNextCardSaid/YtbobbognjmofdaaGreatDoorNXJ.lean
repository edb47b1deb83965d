/-
  The closed facts of the row of FnNext: those that lean on what it reaches, one by one, then all.
-/
import Derived.Test.YtbobbognjmofdaaGreatDoorRows
import Derived.JoinedOf
import Derived.WalkKit
import Derived.SevenTiedAt
namespace Go.Proofs.YtbobbognjmofdaaGreatDoor.fnNext
open Go
theorem inPlaceWord : (Rows.fnNextRow.inPlace == Tryz.prog.inPlace 4) = true := by kernel_rfl
theorem unfollowedWord : (Rows.fnNextRow.unfollowed == Tryz.prog.unfollowed 4) = true := by kernel_rfl
theorem varsWord : (Rows.fnNextRow.named == Tryz.prog.varsNamed 4) = true := by kernel_rfl
theorem recursesWord : (Rows.fnNextRow.recurses == Tryz.prog.recurses 4) = true := by
  unfold Program.recurses
  rw [← (beq_iff_eq.1 unfollowedWord)]
  rfl
theorem joined : joinedFacts Tryz.prog 4 Tryz.f4 Rows.fnNextSpec Rows.fnNextRow = true := by
  unfold joinedFacts
  rw [inPlaceWord, unfollowedWord, recursesWord, varsWord]
  kernel_rfl
theorem wfWord : Rows.fnNextRow.wfByText (OpenSpec.ofChange Rows.fnNextSpec) = true := by kernel_rfl
theorem named : Tryz.prog.funcNamed "given.example/pub-versicle/laws.FnNext" = some 4 := by kernel_rfl
theorem goesWord : false = Rows.fnNextRow.goesBy Tryz.prog := by kernel_rfl
end Go.Proofs.YtbobbognjmofdaaGreatDoor.fnNext
