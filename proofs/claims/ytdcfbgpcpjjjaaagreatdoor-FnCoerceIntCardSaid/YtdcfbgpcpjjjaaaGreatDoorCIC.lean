/-
  The statement FnCoerceInt (the tied card), proved: out of the walk Co.lawInt_any. No condition.
-/
import Derived.Test.YtdcfbgpcpjjjaaaGreatDoorCards
import Derived.Test.YtdcfbgpcpjjjaaaGreatDoorTie
import Derived.Test.YtdcfbgpcpjjjaaaGreatDoorCIJ
import Derived.Test.YtdcfbgpcpjjjaaaGreatDoorCIL
import Derived.SevenTiedAt
namespace Go.Proofs.YtdcfbgpcpjjjaaaGreatDoor.fnCoerceInt
open Go Go.ChangeShapes Go.WideShapes Go.ChangeAt Go.RowKit
set_option linter.unusedVariables false
theorem over : Rows.fnCoerceIntRow.holds Tryz.pinned (OpenSpec.ofChange Rows.fnCoerceIntSpec) :=
  OpenClaim.holds_of_wide 4 Tryz.f4 rfl rfl rfl rfl rfl rfl rfl ⟨rfl, rfl, rfl, rfl, rfl⟩ rfl rfl rfl rfl rfl (by kernel_rfl) Tryz.func4 joined
    (of_decide_eq_true (by kernel_rfl)) (by unfold Func.isWrapper; first | (rw [if_pos (by decide +kernel)]; kernel_rfl) | (rw [if_neg (by decide +kernel)]; exact ⟨rfl, rfl⟩))
    (fun os started H enc _ => lifted os started H enc)
theorem card : Claim7.holds Tryz.pinned (.plain (OpenSpec.ofChange Rows.fnCoerceIntSpec)) Rows.fnCoerceIntCard :=
  Claim7.holds_tied_plain_at .later [] [.data, .data, .widerDeep, .widerDeep, .data, .data, .data, .data, .data, .sentinel, .sentinel, .pinned, .pinned] true (true, "3ada358db2f88bdfee824646cc87dfc34ba07721c83741e9d5a09ac581a2866a") true
    over (fun _ h => by cases h) wfWord (fun _ h => by cases h) fnCoerceInt_row_tie rfl ⟨rfl, rfl⟩ mainWord rfl
    (fun f fn hf hfn => by
      obtain rfl : f = 4 := Option.some.inj (named.symm.trans hf) |>.symm
      obtain rfl : fn = Tryz.f4 := (Option.some.inj (Tryz.func4.symm.trans hfn)).symm
      exact ⟨looksWord, fun j t ht => by
        rw [Tryz.params4] at ht
        have hm : t ∈ [22] := by simpa using Array.mem_of_getElem? ht
        have hall : ([22].all fun u => !Tryz.prog.wantsStandIn u) = true := by kernel_rfl
        exact (show Tryz.prog.wantsStandIn t = false by simpa using List.all_eq_true.1 hall t hm)⟩)
    goesWord
end Go.Proofs.YtdcfbgpcpjjjaaaGreatDoor.fnCoerceInt
namespace Go.Proofs.YtdcfbgpcpjjjaaaGreatDoor
/-- The card, under a short name, for the claim. -/
theorem fnCoerceInt_holds : Rows.FnCoerceIntCardSaid := fnCoerceInt.card
end Go.Proofs.YtdcfbgpcpjjjaaaGreatDoor
