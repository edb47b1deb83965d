/-
  The statement FnCoerceString (the tied card), proved: out of the walk Co.lawString_any. No condition.
-/
import Derived.Test.YtdcfbgpcpjjjaaaGreatDoorCards
import Derived.Test.YtdcfbgpcpjjjaaaGreatDoorTie
import Derived.Test.YtdcfbgpcpjjjaaaGreatDoorCSJ
import Derived.Test.YtdcfbgpcpjjjaaaGreatDoorCSL
import Derived.SevenTiedAt
namespace Go.Proofs.YtdcfbgpcpjjjaaaGreatDoor.fnCoerceString
open Go Go.ChangeShapes Go.WideShapes Go.ChangeAt Go.RowKit
set_option linter.unusedVariables false
theorem over : Rows.fnCoerceStringRow.holds Tryz.pinned (OpenSpec.ofChange Rows.fnCoerceStringSpec) :=
  OpenClaim.holds_of_wide 3 Tryz.f3 rfl rfl rfl rfl rfl rfl rfl ⟨rfl, rfl, rfl, rfl, rfl⟩ rfl rfl rfl rfl rfl (by kernel_rfl) Tryz.func3 joined
    (of_decide_eq_true (by kernel_rfl)) (by unfold Func.isWrapper; first | (rw [if_pos (by decide +kernel)]; kernel_rfl) | (rw [if_neg (by decide +kernel)]; exact ⟨rfl, rfl⟩))
    (fun os started H enc _ => lifted os started H enc)
theorem card : Claim7.holds Tryz.pinned (.plain (OpenSpec.ofChange Rows.fnCoerceStringSpec)) Rows.fnCoerceStringCard :=
  Claim7.holds_tied_plain_at .later [] [.data, .data, .data, .data, .pinned, .pinned] true (true, "3ada358db2f88bdfee824646cc87dfc34ba07721c83741e9d5a09ac581a2866a") true
    over (fun _ h => by cases h) wfWord (fun _ h => by cases h) fnCoerceString_row_tie rfl ⟨rfl, rfl⟩ mainWord rfl
    (fun f fn hf hfn => by
      obtain rfl : f = 3 := Option.some.inj (named.symm.trans hf) |>.symm
      obtain rfl : fn = Tryz.f3 := (Option.some.inj (Tryz.func3.symm.trans hfn)).symm
      exact ⟨looksWord, fun j t ht => by
        rw [Tryz.params3] at ht
        have hm : t ∈ [22] := by simpa using Array.mem_of_getElem? ht
        have hall : ([22].all fun u => !Tryz.prog.wantsStandIn u) = true := by kernel_rfl
        exact (show Tryz.prog.wantsStandIn t = false by simpa using List.all_eq_true.1 hall t hm)⟩)
    goesWord
end Go.Proofs.YtdcfbgpcpjjjaaaGreatDoor.fnCoerceString
namespace Go.Proofs.YtdcfbgpcpjjjaaaGreatDoor
/-- The card, under a short name, for the claim. -/
theorem fnCoerceString_holds : Rows.FnCoerceStringCardSaid := fnCoerceString.card
end Go.Proofs.YtdcfbgpcpjjjaaaGreatDoor
