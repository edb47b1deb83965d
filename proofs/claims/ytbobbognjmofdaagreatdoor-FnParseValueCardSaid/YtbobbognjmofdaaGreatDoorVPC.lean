/-
  The statement FnParseValue (the tied card), proved: out of the walk Lex.lawParseValue_any. No condition.
-/
import Derived.Test.YtbobbognjmofdaaGreatDoorCards
import Derived.Test.YtbobbognjmofdaaGreatDoorTie
import Derived.Test.YtbobbognjmofdaaGreatDoorPVJ
import Derived.Test.YtbobbognjmofdaaGreatDoorV26
import Derived.SevenTiedAt
namespace Go.Proofs.YtbobbognjmofdaaGreatDoor
open Go
theorem mainWord : Tryz.prog.mainIs = some (true, "4d3a154d9c40602aa8772a587e3441a2ca01b51e6fee9d03f0f923265ccfb161".toList) := by kernel_rfl
theorem looksWord : true = Tryz.prog.looks [] := by kernel_rfl
end Go.Proofs.YtbobbognjmofdaaGreatDoor
namespace Go.Proofs.YtbobbognjmofdaaGreatDoor.fnParseValue
open Go Go.ChangeShapes Go.WideShapes Go.ChangeAt Go.RowKit
set_option linter.unusedVariables false
theorem over : Rows.fnParseValueRow.holds Tryz.pinned (OpenSpec.ofChange Rows.fnParseValueSpec) :=
  OpenClaim.holds_of_wide 7 Tryz.f7 rfl rfl rfl rfl rfl rfl rfl ⟨rfl, rfl, rfl, rfl, rfl⟩ rfl rfl rfl rfl rfl (by kernel_rfl) Tryz.func7 joined
    (of_decide_eq_true (by kernel_rfl)) (by unfold Func.isWrapper; first | (rw [if_pos (by decide +kernel)]; kernel_rfl) | (rw [if_neg (by decide +kernel)]; exact ⟨rfl, rfl⟩))
    (fun os started H enc _ => lifted os started H enc)
theorem card : Claim7.holds Tryz.pinned (.plain (OpenSpec.ofChange Rows.fnParseValueSpec)) Rows.fnParseValueCard :=
  Claim7.holds_tied_plain_at .later [] [.data, .sentinel, .pinned] true (true, "4d3a154d9c40602aa8772a587e3441a2ca01b51e6fee9d03f0f923265ccfb161") true
    over (fun _ h => by cases h) wfWord (fun _ h => by cases h) fnParseValue_row_tie rfl ⟨rfl, rfl⟩ mainWord rfl
    (fun f fn hf hfn => by
      obtain rfl : f = 7 := Option.some.inj (named.symm.trans hf) |>.symm
      obtain rfl : fn = Tryz.f7 := (Option.some.inj (Tryz.func7.symm.trans hfn)).symm
      exact ⟨looksWord, fun j t ht => by
        rw [Tryz.params7] at ht
        have hm : t ∈ [9] := by simpa using Array.mem_of_getElem? ht
        have hall : ([9].all fun u => !Tryz.prog.wantsStandIn u) = true := by kernel_rfl
        exact (show Tryz.prog.wantsStandIn t = false by simpa using List.all_eq_true.1 hall t hm)⟩)
    goesWord
end Go.Proofs.YtbobbognjmofdaaGreatDoor.fnParseValue
namespace Go.Proofs.YtbobbognjmofdaaGreatDoor
/-- The card, under a short name, for the claim. -/
theorem fnParseValue_holds : Rows.FnParseValueCardSaid := fnParseValue.card
end Go.Proofs.YtbobbognjmofdaaGreatDoor
