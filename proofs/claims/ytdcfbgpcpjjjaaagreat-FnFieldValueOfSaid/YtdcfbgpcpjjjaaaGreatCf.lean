/-
  math.Trunc, Abs, Signbit, IsNaN, IsInf: what they give, by the model's own words on floats.
-/
import Derived.Test.YtdcfbgpcpjjjaaaGreatCb
import Derived.Laws.Externs
import Derived.Laws.BitsAllLaws
import Derived.WalkLawsBesides
namespace Go.Proofs.YtdcfbgpcpjjjaaaGreat.Co
open Go.RowKit Go.Proofs.YtdcfbgpcpjjjaaaGreatW.PrintWords
open Go.Proofs.YtdcfbgpcpjjjaaaGreat.Fl Go.Proofs.YtdcfbgpcpjjjaaaGreat.Dr
set_option linter.unusedVariables false
set_option linter.unusedSimpArgs false
theorem x38 (b : Nat) (w : World) : (callFunc 32 #[.float .f64 b]).run Tryz.prog w = .ok (.value (.int .u64 b)) w := by
  rw [run_callFunc_extern Tryz.func32 (by kernel_rfl) (by kernel_rfl) (by kernel_rfl) (e := Extern.MathFloatBits.float64bits) (by kernel_rfl)]
  rfl
theorem x39 (n : Int) (w : World) : (callFunc 31 #[.int .u64 n]).run Tryz.prog w = .ok (.value (.float .f64 n.toNat)) w := by
  rw [run_callFunc_extern Tryz.func31 (by kernel_rfl) (by kernel_rfl) (by kernel_rfl) (e := Extern.MathFloatBits.float64frombits) (by kernel_rfl)]
  rfl
/-- What Trunc gives: of a number its whole part; of a NaN a NaN. -/
def Cut (x y : Nat) : Prop := (D.order x y == some .eq) = wholeN x ∧ ((D.read x).isNaN = false → y = cutW x)
theorem x22 (x : Nat) (w : World) : ∃ y k, Cut x y ∧ (callFunc 29 #[.float .f64 x]).run Tryz.prog w = .ok (.value (.float .f64 y)) (w.drewN k) := by
  have hn : (D.read x).isNaN = true → ∀ y, (D.order x y == some .eq) = wholeN x := by
    intro h y
    unfold wholeN Ieee.Format.order
    cases hd : D.read x with
    | nan s t => rfl
    | infinity s => rw [hd] at h; cases h
    | number s m i => rw [hd] at h; cases h
  have hrun : ∀ e : Array Value → Sem Value, e = Extern.MathFloor.toIntegral "math.archTrunc" .zero → (callFunc 29 #[.float .f64 x]).run Tryz.prog w = ((e #[.float .f64 x]).run Tryz.prog w).andThen fun v w' => .ok (.value v) w' := by
    intro e he
    subst he
    exact run_callFunc_extern Tryz.func29 (by kernel_rfl) (by kernel_rfl) (by kernel_rfl) (by kernel_rfl) _ w
  rw [hrun _ rfl]
  have key : Extern.MathFloor.toIntegral "math.archTrunc" .zero #[.float .f64 x] = (match D.read x with
    | .nan s t => if FloatKind.f64.format.quiet t = t then pure (.float .f64 x) else do
        let kept ← choose (.extern "math.Floor,Ceil,Trunc,RoundToEven.signallingNaN kept" 2)
        pure (.float .f64 (if kept == 1 then x else FloatKind.f64.encode (.nan s (FloatKind.f64.format.quiet t))))
    | d => pure (.float .f64 (FloatKind.f64.encode (d.integral .zero)))) := rfl
  rw [key]
  cases hd : D.read x with
  | nan s t =>
    dsimp only
    by_cases hq : FloatKind.f64.format.quiet t = t
    · rw [if_pos hq]
      exact ⟨x, 0, ⟨hn (by rw [hd]; rfl) x, fun h => by rw [hd] at h; cases h⟩, rfl⟩
    · rw [if_neg hq]
      simp only [Sem.run_bind, run_choose_drew]
      split
      · exact ⟨_, 0, ⟨hn (by rw [hd]; rfl) _, fun h => by rw [hd] at h; cases h⟩, rfl⟩
      · exact ⟨_, 1, ⟨hn (by rw [hd]; rfl) _, fun h => by rw [hd] at h; cases h⟩, rfl⟩
  | infinity s =>
    refine ⟨cutW x, 0, ⟨rfl, fun _ => rfl⟩, ?_⟩
    unfold cutW
    rw [hd]
    rfl
  | number s m i =>
    refine ⟨cutW x, 0, ⟨rfl, fun _ => rfl⟩, ?_⟩
    unfold cutW
    rw [hd]
    rfl
set_option maxRecDepth 10000 in
theorem trunc_any (x : Nat) (w : World) : Calls Tryz.prog 19 #[.float .f64 x] w fun e w' => (∃ y, e = .returned (.float .f64 y) ∧ Cut x y) ∧ ∃ k, w' = w.drewN k := by
  obtain ⟨y, k, hc, hr⟩ := x22 x w
  go_enter Tryz.func19, Tryz.ntmps19
  go_wp2_with fail
  go_ret
  exact ⟨⟨y, rfl, hc⟩, k, rfl⟩
theorem abs_any (x : Nat) (hx : x < 2 ^ 64) (w : World) : Calls Tryz.prog 20 #[.float .f64 x] w fun e w' => e = .returned (.float .f64 (x % 9223372036854775808)) ∧ w' = w := by
  have e38 := x38
  have e39 := x39
  go_enter Tryz.func20, Tryz.ntmps20
  go_wp2_with fail
  go_ret
  exact ⟨by
    have h := u64_andNot_nat x 9223372036854775808 hx (by decide)
    show Ending.returned (Value.float FloatKind.f64 (bits BinOp.andNot IntKind.u64 (x : Int) ((9223372036854775808 : Nat) : Int)).toNat) = _
    rw [h, Int.toNat_natCast]
    have e : (18446744073709551615 - 9223372036854775808 : Nat) = 2 ^ 63 - 1 := by decide
    rw [e, Nat.and_two_pow_sub_one_eq_mod], rfl⟩
theorem signbit_any (x : Nat) (hx : x < 2 ^ 64) (w : World) : Calls Tryz.prog 21 #[.float .f64 x] w fun e w' => e = .returned (.bool (negN x)) ∧ w' = w := by
  have e38 := x38
  go_enter Tryz.func21, Tryz.ntmps21
  go_wp2_with fail
  go_ret
  exact ⟨by
    show Ending.returned (Value.bool (decide (wrap64 (x : Int) < 0))) = _
    unfold negN
    congr 2
    rw [decide_eq_decide]
    unfold wrap64
    omega, rfl⟩
theorem isNaN_any (x : Nat) (w : World) : Calls Tryz.prog 22 #[.float .f64 x] w fun e w' => e = .returned (.bool (nanN x)) ∧ w' = w := by
  go_enter Tryz.func22, Tryz.ntmps22
  go_wp2_with fail
  go_ret
  exact ⟨rfl, rfl⟩
theorem isInf_any (x : Nat) (hx : x < 2 ^ 64) (w : World) : Calls Tryz.prog 23 #[.float .f64 x, .int .i64 0] w fun e w' => e = .returned (.bool (infN x)) ∧ w' = w := by
  go_enter Tryz.func23, Tryz.ntmps23
  go_wp2_with fail
  refine (abs_any x hx _).mono ?_
  rintro e w' ⟨rfl, rfl⟩
  go_wp2_with fail
  go_ret
  exact ⟨rfl, rfl⟩
end Go.Proofs.YtdcfbgpcpjjjaaaGreat.Co
