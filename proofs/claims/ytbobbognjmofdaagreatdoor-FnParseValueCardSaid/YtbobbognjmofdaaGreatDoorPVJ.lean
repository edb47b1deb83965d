/-
  The closed facts of the row of FnParseValue.
-/
import Derived.Test.YtbobbognjmofdaaGreatDoorRows
import Derived.JoinedOf
import Derived.WalkKit
import Derived.SevenTiedAt
namespace Go.Proofs.YtbobbognjmofdaaGreatDoor.fnParseValue
open Go
theorem inPlaceWord : (Rows.fnParseValueRow.inPlace == Tryz.prog.inPlace 7) = true := by kernel_rfl
theorem unfollowedWord : (Rows.fnParseValueRow.unfollowed == Tryz.prog.unfollowed 7) = true := by kernel_rfl
theorem varsWord : (Rows.fnParseValueRow.named == Tryz.prog.varsNamed 7) = true := by kernel_rfl
theorem recursesWord : (Rows.fnParseValueRow.recurses == Tryz.prog.recurses 7) = true := by
  unfold Program.recurses
  rw [← (beq_iff_eq.1 unfollowedWord)]
  rfl
theorem joined : joinedFacts Tryz.prog 7 Tryz.f7 Rows.fnParseValueSpec Rows.fnParseValueRow = true := by
  unfold joinedFacts
  rw [inPlaceWord, unfollowedWord, recursesWord, varsWord]
  kernel_rfl
theorem wfWord : Rows.fnParseValueRow.wfByText (OpenSpec.ofChange Rows.fnParseValueSpec) = true := by kernel_rfl
theorem named : Tryz.prog.funcNamed "given.example/pub-versicle/laws.FnParseValue" = some 7 := by kernel_rfl
theorem goesWord : false = Rows.fnParseValueRow.goesBy Tryz.prog := by kernel_rfl
end Go.Proofs.YtbobbognjmofdaaGreatDoor.fnParseValue
