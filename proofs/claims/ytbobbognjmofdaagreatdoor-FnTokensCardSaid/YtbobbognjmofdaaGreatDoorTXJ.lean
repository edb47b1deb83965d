/-
  The closed facts of the row of FnTokens.
-/
import Derived.Test.YtbobbognjmofdaaGreatDoorRows
import Derived.JoinedOf
import Derived.WalkKit
import Derived.SevenTiedAt
namespace Go.Proofs.YtbobbognjmofdaaGreatDoor.fnTokens
open Go
theorem inPlaceWord : (Rows.fnTokensRow.inPlace == Tryz.prog.inPlace 5) = true := by kernel_rfl
theorem unfollowedWord : (Rows.fnTokensRow.unfollowed == Tryz.prog.unfollowed 5) = true := by kernel_rfl
theorem varsWord : (Rows.fnTokensRow.named == Tryz.prog.varsNamed 5) = true := by kernel_rfl
theorem recursesWord : (Rows.fnTokensRow.recurses == Tryz.prog.recurses 5) = true := by
  unfold Program.recurses
  rw [← (beq_iff_eq.1 unfollowedWord)]
  rfl
theorem joined : joinedFacts Tryz.prog 5 Tryz.f5 Rows.fnTokensSpec Rows.fnTokensRow = true := by
  unfold joinedFacts
  rw [inPlaceWord, unfollowedWord, recursesWord, varsWord]
  kernel_rfl
theorem wfWord : Rows.fnTokensRow.wfByText (OpenSpec.ofChange Rows.fnTokensSpec) = true := by kernel_rfl
theorem named : Tryz.prog.funcNamed "given.example/pub-versicle/laws.FnTokens" = some 5 := by kernel_rfl
theorem goesWord : false = Rows.fnTokensRow.goesBy Tryz.prog := by kernel_rfl
end Go.Proofs.YtbobbognjmofdaaGreatDoor.fnTokens
