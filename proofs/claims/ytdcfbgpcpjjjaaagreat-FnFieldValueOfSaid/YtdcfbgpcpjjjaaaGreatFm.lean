/- Plain facts on 64-bit floats: a whole number below 2^53 read as an integer. -/
import Derived.Test.YtdcfbgpcpjjjaaaGreatDr
namespace Go.Proofs.YtdcfbgpcpjjjaaaGreat.Dr
open Ieee Go Go.Proofs.YtdcfbgpcpjjjaaaGreat.Fl
set_option linter.unusedVariables false
/-- Without its sign. -/
def unsigned : Datum → Datum
  | .nan _ t => .nan false t
  | .infinity _ => .infinity false
  | .number _ m i => .number false m i
theorem read_abs (x : Nat) : D.read (x % 9223372036854775808) = unsigned (D.read x) := by
  have hsw : D.signWeight = 9223372036854775808 := rfl
  have hz : (x % 9223372036854775808) / 9223372036854775808 = 0 := Nat.div_eq_of_lt (Nat.mod_lt _ (by decide))
  unfold Format.read
  simp only [hsw, Nat.mod_mod, hz]
  split
  · rfl
  · split
    · rfl
    · split <;> rfl
theorem intN_num {x : Nat} (h : intN x = true) : ∃ k : Int, floatToIntVal .f64 x .i64 = some k ∧ k.natAbs < 2 ^ 53 := by
  unfold intN at h
  rw [Bool.and_eq_true, Bool.and_eq_true] at h
  obtain ⟨-, hb, -⟩ := h
  unfold belowN at hb
  have hb : D.order (x % 9223372036854775808) 4845873199050653696 = some .lt := by simpa using hb
  unfold Format.order at hb
  rw [read_abs, show D.read 4845873199050653696 = .number false 4503599627370496 1 by decide] at hb
  cases hd : D.read x with
  | nan s t => rw [hd] at hb; cases hb
  | infinity s => rw [hd] at hb; cases hb
  | number s m i =>
    rw [hd] at hb
    have hw := lt_of_lt (c := 9007199254740992) (by decide) hb
    have hk : (signed s (Fl.whole m i) 0).natAbs < 2 ^ 53 := by
      rw [signed_zero]
      cases s <;> simp <;> omega
    refine ⟨signed s (Fl.whole m i) 0, ?_, hk⟩
    unfold floatToIntVal
    have e : (FloatKind.f64.decode x).toInt .zero = some (signed s (Fl.whole m i) 0) := by
      show (D.read x).toInt .zero = _
      rw [hd, toInt_number]
    rw [e]
    have hmin : IntKind.i64.min = -9223372036854775808 := by decide
    have hmax : IntKind.i64.max = 9223372036854775807 := by decide
    simp only [hmin, hmax]
    rw [if_pos (by omega)]
end Go.Proofs.YtdcfbgpcpjjjaaaGreat.Dr
