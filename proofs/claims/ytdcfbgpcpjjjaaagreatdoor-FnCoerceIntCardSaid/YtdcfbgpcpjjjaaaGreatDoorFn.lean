/- Plain facts on 64-bit floats: a number within 32 bits, cut. -/
import Derived.Test.YtdcfbgpcpjjjaaaGreatDoorFm
namespace Go.Proofs.YtdcfbgpcpjjjaaaGreatDoor.Dr
open Ieee Go Go.Proofs.YtdcfbgpcpjjjaaaGreatDoor.Fl
set_option linter.unusedVariables false
/-- Below the least, above the greatest number of 32 bits. -/
def under32 (n : Nat) : Bool := D.order n 13970166044103278592 == some .lt
def over32 (n : Nat) : Bool := D.order n 4746794007244308480 == some .gt
theorem in32 {n : Nat} (hn : (D.read n).isNaN = false) (hu : under32 n = false) (ho : over32 n = false) :
    ∃ k : Int, floatToIntVal .f64 n .i64 = some k ∧ -2147483648 ≤ k ∧ k ≤ 2147483647 ∧ D.add (cutW n) 0 = some (wordOf k) := by
  have hu : D.order n 13970166044103278592 ≠ some .lt := fun e => by
    unfold under32 at hu; rw [e] at hu; cases hu
  have ho : D.order n 4746794007244308480 ≠ some .gt := fun e => by
    unfold over32 at ho; rw [e] at ho; cases ho
  unfold Format.order at hu ho
  rw [show D.read 13970166044103278592 = .number true 4503599627370496 (-21) by decide] at hu
  rw [show D.read 4746794007244308480 = .number false 9007199250546688 (-22) by decide] at ho
  unfold cutW
  cases hd : D.read n with
  | nan s t => rw [hd] at hn; cases hn
  | infinity s =>
    rw [hd] at hu ho
    cases s
    · exact absurd rfl ho
    · exact absurd rfl hu
  | number s m i =>
    rw [hd] at hu ho
    have h1 := le_of_not_gt (c := 2147483647) (by decide) ho
    have h2 := ge_of_not_lt (c := 2147483648) (by decide) hu
    have hw : Fl.whole m i < 2 ^ 53 := by
      rw [signed_zero] at h1 h2
      cases s <;> simp at h1 h2 <;> omega
    refine ⟨signed s (Fl.whole m i) 0, ?_, by simpa using h2, by simpa using h1, ?_⟩
    · unfold floatToIntVal
      have e : (FloatKind.f64.decode n).toInt .zero = some (signed s (Fl.whole m i) 0) := by
        show (D.read n).toInt .zero = _
        rw [hd, toInt_number]
      rw [e]
      have hmin : IntKind.i64.min = -9223372036854775808 := by decide
      have hmax : IntKind.i64.max = 9223372036854775807 := by decide
      simp only [hmin, hmax]
      rw [if_pos (by omega)]
    · rw [integral_number]
      exact cut_add_zero s _ hw
end Go.Proofs.YtdcfbgpcpjjjaaaGreatDoor.Dr
