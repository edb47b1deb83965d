/-
  The statement FnReadString (the tied card), proved: out of the walk Lex.law_any. No condition.
-/
import Derived.Test.YtbobbognjmofdaaGreatDoorCards
import Derived.Test.YtbobbognjmofdaaGreatDoorTie
import Derived.Test.YtbobbognjmofdaaGreatDoorRSJ
import Derived.Test.YtbobbognjmofdaaGreatDoorRSL
import Derived.SevenTiedAt
namespace Go.Proofs.YtbobbognjmofdaaGreatDoor.fnReadString
open Go Go.ChangeShapes Go.WideShapes Go.ChangeAt Go.RowKit
set_option linter.unusedVariables false
theorem over : Rows.fnReadStringRow.holds Tryz.pinned (OpenSpec.ofChange Rows.fnReadStringSpec) :=
  OpenClaim.holds_of_wide 3 Tryz.f3 rfl rfl rfl rfl rfl rfl rfl ⟨rfl, rfl, rfl, rfl, rfl⟩ rfl rfl rfl rfl rfl (by kernel_rfl) Tryz.func3 joined
    (of_decide_eq_true (by kernel_rfl)) (by unfold Func.isWrapper; first | (rw [if_pos (by decide +kernel)]; kernel_rfl) | (rw [if_neg (by decide +kernel)]; exact ⟨rfl, rfl⟩))
    (fun os started H enc _ => lifted os started H enc)
theorem card : Claim7.holds Tryz.pinned (.plain (OpenSpec.ofChange Rows.fnReadStringSpec)) Rows.fnReadStringCard :=
  Claim7.holds_tied_plain_at .later [] [.data, .sentinel, .pinned] true (true, "4d3a154d9c40602aa8772a587e3441a2ca01b51e6fee9d03f0f923265ccfb161") true
    over (fun _ h => by cases h) wfWord (fun _ h => by cases h) fnReadString_row_tie rfl ⟨rfl, rfl⟩ mainWord rfl
    (fun f fn hf hfn => by
      obtain rfl : f = 3 := Option.some.inj (named.symm.trans hf) |>.symm
      obtain rfl : fn = Tryz.f3 := (Option.some.inj (Tryz.func3.symm.trans hfn)).symm
      exact ⟨looksWord, fun j t ht => by
        rw [Tryz.params3] at ht
        have hm : t ∈ [9] := by simpa using Array.mem_of_getElem? ht
        have hall : ([9].all fun u => !Tryz.prog.wantsStandIn u) = true := by kernel_rfl
        exact (show Tryz.prog.wantsStandIn t = false by simpa using List.all_eq_true.1 hall t hm)⟩)
    goesWord
end Go.Proofs.YtbobbognjmofdaaGreatDoor.fnReadString
namespace Go.Proofs.YtbobbognjmofdaaGreatDoor
/-- The card, under a short name, for the claim. -/
theorem fnReadString_holds : Rows.FnReadStringCardSaid := fnReadString.card
end Go.Proofs.YtbobbognjmofdaaGreatDoor
