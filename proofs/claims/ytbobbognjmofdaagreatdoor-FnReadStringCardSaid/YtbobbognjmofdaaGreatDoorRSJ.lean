/-
  The closed facts of the row of FnReadString.
-/
import Derived.Test.YtbobbognjmofdaaGreatDoorRows
import Derived.JoinedOf
import Derived.WalkKit
import Derived.SevenTiedAt
namespace Go.Proofs.YtbobbognjmofdaaGreatDoor.fnReadString
open Go
theorem joined : joinedFacts Tryz.prog 3 Tryz.f3 Rows.fnReadStringSpec Rows.fnReadStringRow = true := by kernel_rfl
theorem wfWord : Rows.fnReadStringRow.wfByText (OpenSpec.ofChange Rows.fnReadStringSpec) = true := by kernel_rfl
theorem named : Tryz.prog.funcNamed "given.example/pub-versicle/laws.FnReadString" = some 3 := by kernel_rfl
theorem goesWord : false = Rows.fnReadStringRow.goesBy Tryz.prog := by kernel_rfl
end Go.Proofs.YtbobbognjmofdaaGreatDoor.fnReadString
