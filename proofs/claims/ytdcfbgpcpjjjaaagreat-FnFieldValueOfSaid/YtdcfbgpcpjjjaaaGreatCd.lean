/-
  The reference's DataRight, walked.
-/
import Derived.Test.YtdcfbgpcpjjjaaaGreatCu
import Derived.Test.YtdcfbgpcpjjjaaaGreatCf
import Derived.Test.YtdcfbgpcpjjjaaaGreatWMore
namespace Go.Proofs.YtdcfbgpcpjjjaaaGreat.Co
open Go.RowKit Go.Proofs.YtdcfbgpcpjjjaaaGreatW.PrintWords Go.Proofs.YtdcfbgpcpjjjaaaGreatW.PrintLast Go.Proofs.YtdcfbgpcpjjjaaaGreatW.PrintMore
open Go.Proofs.YtdcfbgpcpjjjaaaGreat.Fl Go.Proofs.YtdcfbgpcpjjjaaaGreat.Dr Go.Proofs.YtdcfbgpcpjjjaaaGreat.PFnFieldValueOf
set_option linter.unusedVariables false
set_option linter.unusedSimpArgs false
theorem run_store_float {P : Program} {w : World} {a : Addr} {m : Mode} (k : FloatKind) (b : Nat) : (store a (.float k b) m).run P w = stored P w a (.float k b) m := run_store P w a _ m rfl
attribute [local go_sem] run_store_float
/-- The first node's cells. -/
theorem at0_27 {w : World} {A : Option Addr} {n : Nat} {xs : List V4} (h : Kd.C k27 w A n xs) (h1 : 0 < n) : ∃ ad, A = some ad ∧ w.cell? ad = some (.int .i64 (rd27 xs 0).kind) ∧
    w.cell? ⟨ad.block, ad.off + 1, none⟩ = some (.float .f64 (rd27 xs 0).num) ∧ w.cell? ⟨ad.block, ad.off + 2, none⟩ = some (.string (rd27 xs 0).text) ∧ w.cell? ⟨ad.block, ad.off + 3, none⟩ = some (.int .i64 (rd27 xs 0).size) := by
  obtain ⟨ad, e, p0, p1, p2, p3⟩ := at_27 h 0 (by omega) (by omega)
  have ez : ad.add (Int.toNat 0 * 4) = ad := Addr.add_zero' ad
  rw [ez] at p0 p1 p2 p3
  exact ⟨ad, e, p0, p1, p2, p3⟩
theorem below_one (w : World) (o : Obj) : Below w.heap.size w (w.alloc o) := below_alloc (Below.refl _ _) o
/-- The test of a number against nought, as the walk has it. -/
theorem nz_true {n : Nat} (h : numZero n = true) : (FloatKind.f64.format.order n 0 != some Ordering.eq) = false := by
  unfold numZero at h
  show (!(D.order n 0 == some .eq)) = false
  rw [h]; rfl
theorem nz_false {n : Nat} (h : numZero n = false) : (FloatKind.f64.format.order n 0 != some Ordering.eq) = true := by
  unfold numZero at h
  show (!(D.order n 0 == some .eq)) = true
  rw [h]; rfl
set_option maxHeartbeats 4000000 in
theorem head_fail (v : List V4) (A : Option Addr) (c : Nat) (errs : Bool) (d : Nat) (w : World) (h : Kd.C k27 w A v.length v) (h0 : 0 < v.length) (hc : v.length ≤ c) (hs : d = 0 ∨ headR v.length (rd27 v 0) = false) :
    Calls Tryz.prog 12 #[.slice A v.length c, .bool errs, .int .i64 ((d : Int) - 1)] w fun e w' => e = .returned (.bool false) ∧ Below w.heap.size w w' := by
  obtain ⟨a1, rfl, p0, p1, p2, p3⟩ := at0_27 h h0
  have hlt : (0 : Int) < (v.length : Int) := by omega
  generalize rd27 v 0 = x at *
  obtain ⟨xk, xn, xt, xs⟩ := x
  dsimp only at p0 p1 p2 p3
  by_cases c1 : xs = (v.length : Int)
  · subst c1
    by_cases c2 : d = 0
    · subst c2
      clear hs
      go_enter Tryz.func12, Tryz.ntmps12
      go_wp2_with fail
      go_ret
      exact ⟨rfl, below_one _ _⟩
    · have hs := hs.resolve_left c2
      have d2 : decide ((d : Int) - 1 < 0) = false := decide_eq_false (by omega)
      simp only [headR, decide_true, Bool.true_and] at hs
      by_cases c3 : xk = 4
      · subst c3
        have te : xt.toList.isEmpty = false := by simpa using hs
        clear hs
        go_enter Tryz.func12, Tryz.ntmps12
        go_wp2_with fail
        go_ret
        exact ⟨rfl, below_one _ _⟩
      · by_cases c4 : xk = 5
        · subst c4
          have te : xt.toList.isEmpty = false := by simpa using hs
          clear hs
          go_enter Tryz.func12, Tryz.ntmps12
          go_wp2_with fail
          go_ret
          exact ⟨rfl, below_one _ _⟩
        · have k3 : (xk != 4) = true := by simpa using c3
          have k4 : (xk != 5) = true := by simpa using c4
          rw [decide_eq_false c3, decide_eq_false c4, Bool.false_or, Bool.false_or] at hs
          cases c5 : numZero xn with
          | false =>
            have nz := nz_false c5
            clear hs c3 c4 c5
            go_enter Tryz.func12, Tryz.ntmps12
            go_wp2_with fail
            go_ret
            exact ⟨rfl, below_one _ _⟩
          | true =>
            have nz := nz_true c5
            rw [c5, Bool.true_and] at hs
            have k5 : (xk != 6) = true := by
              by_cases c6 : xk = 6
              · rw [c6] at hs; simp at hs
              · simpa using c6
            have k6 : (xk != 9) = true := by
              by_cases c6 : xk = 9
              · rw [c6] at hs; simp at hs
              · simpa using c6
            have te : xt.toList.isEmpty = false := by
              cases hte : xt.toList.isEmpty with
              | false => rfl
              | true => rw [hte] at hs; simp at hs
            clear hs c3 c4 c5
            go_enter Tryz.func12, Tryz.ntmps12
            go_wp2_with fail
            go_ret
            exact ⟨rfl, below_one _ _⟩
  · have d1 : (xs != (v.length : Int)) = true := by simpa using c1
    clear hs
    go_enter Tryz.func12, Tryz.ntmps12
    go_wp2_with fail
    go_ret
    exact ⟨rfl, below_one _ _⟩
end Go.Proofs.YtdcfbgpcpjjjaaaGreat.Co
