/-
  The statement FnReadArguments (the tied card), proved: out of the walk Lex.lawReadArguments_any. No condition.
-/
import Derived.Test.YtbobbognjmofdaaGreatDoorCards
import Derived.Test.YtbobbognjmofdaaGreatDoorTie
import Derived.Test.YtbobbognjmofdaaGreatDoorRAJ
import Derived.Test.YtbobbognjmofdaaGreatDoorV29
import Derived.SevenTiedAt
namespace Go.Proofs.YtbobbognjmofdaaGreatDoor
open Go
theorem mainWord : Tryz.prog.mainIs = some (true, "4d3a154d9c40602aa8772a587e3441a2ca01b51e6fee9d03f0f923265ccfb161".toList) := by kernel_rfl
theorem looksWord : true = Tryz.prog.looks [] := by kernel_rfl
end Go.Proofs.YtbobbognjmofdaaGreatDoor
namespace Go.Proofs.YtbobbognjmofdaaGreatDoor.fnReadArguments
open Go Go.ChangeShapes Go.WideShapes Go.ChangeAt Go.RowKit
set_option linter.unusedVariables false
theorem over : Rows.fnReadArgumentsRow.holds Tryz.pinned (OpenSpec.ofChange Rows.fnReadArgumentsSpec) :=
  OpenClaim.holds_of_wide 8 Tryz.f8 rfl rfl rfl rfl rfl rfl rfl ⟨rfl, rfl, rfl, rfl, rfl⟩ rfl rfl rfl rfl rfl (by kernel_rfl) Tryz.func8 joined
    (of_decide_eq_true (by kernel_rfl)) (by unfold Func.isWrapper; first | (rw [if_pos (by decide +kernel)]; kernel_rfl) | (rw [if_neg (by decide +kernel)]; exact ⟨rfl, rfl⟩))
    (fun os started H enc _ => lifted os started H enc)
theorem card : Claim7.holds Tryz.pinned (.plain (OpenSpec.ofChange Rows.fnReadArgumentsSpec)) Rows.fnReadArgumentsCard :=
  Claim7.holds_tied_plain_at .later [] [.data, .sentinel, .pinned] true (true, "4d3a154d9c40602aa8772a587e3441a2ca01b51e6fee9d03f0f923265ccfb161") true
    over (fun _ h => by cases h) wfWord (fun _ h => by cases h) fnReadArguments_row_tie rfl ⟨rfl, rfl⟩ mainWord rfl
    (fun f fn hf hfn => by
      obtain rfl : f = 8 := Option.some.inj (named.symm.trans hf) |>.symm
      obtain rfl : fn = Tryz.f8 := (Option.some.inj (Tryz.func8.symm.trans hfn)).symm
      exact ⟨looksWord, fun j t ht => by
        rw [Tryz.params8] at ht
        have hm : t ∈ [9] := by simpa using Array.mem_of_getElem? ht
        have hall : ([9].all fun u => !Tryz.prog.wantsStandIn u) = true := by kernel_rfl
        exact (show Tryz.prog.wantsStandIn t = false by simpa using List.all_eq_true.1 hall t hm)⟩)
    goesWord
end Go.Proofs.YtbobbognjmofdaaGreatDoor.fnReadArguments
namespace Go.Proofs.YtbobbognjmofdaaGreatDoor
/-- The card, under a short name, for the claim. -/
theorem fnReadArguments_holds : Rows.FnReadArgumentsCardSaid := fnReadArguments.card
end Go.Proofs.YtbobbognjmofdaaGreatDoor
