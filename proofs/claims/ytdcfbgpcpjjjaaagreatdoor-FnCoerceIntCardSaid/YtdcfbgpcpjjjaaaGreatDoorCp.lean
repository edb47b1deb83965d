/-
  graphql.CoerceInt at a value of one node, walked.
-/
import Derived.Test.YtdcfbgpcpjjjaaaGreatDoorCm
import Derived.Test.YtdcfbgpcpjjjaaaGreatDoorFn
namespace Go.Proofs.YtdcfbgpcpjjjaaaGreatDoor.Co
open Go.RowKit Go.Proofs.YtdcfbgpcpjjjaaaGreatDoorW.PrintWords Go.Proofs.YtdcfbgpcpjjjaaaGreatDoorW.PrintLast Go.Proofs.YtdcfbgpcpjjjaaaGreatDoorW.PrintMore
open Go.Proofs.YtdcfbgpcpjjjaaaGreatDoor.Fl Go.Proofs.YtdcfbgpcpjjjaaaGreatDoor.Dr Go.Proofs.YtdcfbgpcpjjjaaaGreatDoor.PFnCoerceString
set_option linter.unusedVariables false
set_option linter.unusedSimpArgs false
attribute [local go_sem] run_store_float
/-- What CoerceInt makes of a value. -/
inductive IntOf : Value → Int → Prop
  | tru : IntOf (.iface 4 (.bool true)) 1
  | fls : IntOf (.iface 4 (.bool false)) 0
  | num (k : Int) (h0 : -2147483648 ≤ k) (h1 : k ≤ 2147483647) : IntOf (.iface 3 (.int .i64 k)) k
  | flt (n : Nat) (k : Int) (hu : under32 n = false) (ho : over32 n = false) (hk : Go.floatToIntVal .f64 n .i64 = some k) : IntOf (.iface 25 (.float .f64 n)) k
set_option maxHeartbeats 40000000 in
set_option maxRecDepth 100000 in
theorem coerceInt_any (V : Value) (k : Int) (h : IntOf V k) (w : World) :
    Calls Tryz.prog 36 #[V] w fun e w' => e = .returned (.iface 3 (.int .i64 k)) ∧ w' = w := by
  cases h with
  | tru =>
    have ta4 : ∀ (W : World) (v : Value), (Instr.typeAssert (.iface 4 v) 20 4 true).run Tryz.prog W = .ok (.tuple #[v, .bool true]) W := fun W v => by kernel_rfl
    go_enter Tryz.func36, Tryz.ntmps36
    go_wp2_with fail
    go_ret
    exact ⟨rfl, rfl⟩
  | fls =>
    have ta4 : ∀ (W : World) (v : Value), (Instr.typeAssert (.iface 4 v) 20 4 true).run Tryz.prog W = .ok (.tuple #[v, .bool true]) W := fun W v => by kernel_rfl
    go_enter Tryz.func36, Tryz.ntmps36
    go_wp2_with fail
    go_ret
    exact ⟨rfl, rfl⟩
  | num k h0 h1 =>
    have ta4 : ∀ (W : World) (v : Value), (Instr.typeAssert (.iface 3 v) 20 4 true).run Tryz.prog W = .ok (.tuple #[.bool false, .bool false]) W := fun W v => by kernel_rfl
    have ta78 : ∀ (W : World) (v : Value), (Instr.typeAssert (.iface 3 v) 20 78 true).run Tryz.prog W = .ok (.tuple #[.pointer none, .bool false]) W := fun W v => by kernel_rfl
    have ta3 : ∀ (W : World) (v : Value), (Instr.typeAssert (.iface 3 v) 20 3 true).run Tryz.prog W = .ok (.tuple #[v, .bool true]) W := fun W v => by kernel_rfl
    have c0 : decide (k < -2147483648) = false := decide_eq_false (by omega)
    have c1 : decide (2147483647 < k) = false := decide_eq_false (by omega)
    go_enter Tryz.func36, Tryz.ntmps36
    go_wp2_with fail
    go_ret
    exact ⟨rfl, rfl⟩
  | flt n k hu ho hk =>
    have ta4 : ∀ (W : World) (v : Value), (Instr.typeAssert (.iface 25 v) 20 4 true).run Tryz.prog W = .ok (.tuple #[.bool false, .bool false]) W := fun W v => by kernel_rfl
    have ta78 : ∀ (W : World) (v : Value), (Instr.typeAssert (.iface 25 v) 20 78 true).run Tryz.prog W = .ok (.tuple #[.pointer none, .bool false]) W := fun W v => by kernel_rfl
    have ta3 : ∀ (W : World) (v : Value), (Instr.typeAssert (.iface 25 v) 20 3 true).run Tryz.prog W = .ok (.tuple #[.int .i64 0, .bool false]) W := fun W v => by kernel_rfl
    have ta79 : ∀ (W : World) (v : Value), (Instr.typeAssert (.iface 25 v) 20 79 true).run Tryz.prog W = .ok (.tuple #[.pointer none, .bool false]) W := fun W v => by kernel_rfl
    have ta80 : ∀ (W : World) (v : Value), (Instr.typeAssert (.iface 25 v) 20 80 true).run Tryz.prog W = .ok (.tuple #[.int .i8 0, .bool false]) W := fun W v => by kernel_rfl
    have ta81 : ∀ (W : World) (v : Value), (Instr.typeAssert (.iface 25 v) 20 81 true).run Tryz.prog W = .ok (.tuple #[.pointer none, .bool false]) W := fun W v => by kernel_rfl
    have ta82 : ∀ (W : World) (v : Value), (Instr.typeAssert (.iface 25 v) 20 82 true).run Tryz.prog W = .ok (.tuple #[.int .i16 0, .bool false]) W := fun W v => by kernel_rfl
    have ta83 : ∀ (W : World) (v : Value), (Instr.typeAssert (.iface 25 v) 20 83 true).run Tryz.prog W = .ok (.tuple #[.pointer none, .bool false]) W := fun W v => by kernel_rfl
    have ta21 : ∀ (W : World) (v : Value), (Instr.typeAssert (.iface 25 v) 20 21 true).run Tryz.prog W = .ok (.tuple #[.int .i32 0, .bool false]) W := fun W v => by kernel_rfl
    have ta84 : ∀ (W : World) (v : Value), (Instr.typeAssert (.iface 25 v) 20 84 true).run Tryz.prog W = .ok (.tuple #[.pointer none, .bool false]) W := fun W v => by kernel_rfl
    have ta2 : ∀ (W : World) (v : Value), (Instr.typeAssert (.iface 25 v) 20 2 true).run Tryz.prog W = .ok (.tuple #[.int .i64 0, .bool false]) W := fun W v => by kernel_rfl
    have ta85 : ∀ (W : World) (v : Value), (Instr.typeAssert (.iface 25 v) 20 85 true).run Tryz.prog W = .ok (.tuple #[.pointer none, .bool false]) W := fun W v => by kernel_rfl
    have ta59 : ∀ (W : World) (v : Value), (Instr.typeAssert (.iface 25 v) 20 59 true).run Tryz.prog W = .ok (.tuple #[.int .u64 0, .bool false]) W := fun W v => by kernel_rfl
    have ta86 : ∀ (W : World) (v : Value), (Instr.typeAssert (.iface 25 v) 20 86 true).run Tryz.prog W = .ok (.tuple #[.pointer none, .bool false]) W := fun W v => by kernel_rfl
    have ta5 : ∀ (W : World) (v : Value), (Instr.typeAssert (.iface 25 v) 20 5 true).run Tryz.prog W = .ok (.tuple #[.int .u8 0, .bool false]) W := fun W v => by kernel_rfl
    have ta87 : ∀ (W : World) (v : Value), (Instr.typeAssert (.iface 25 v) 20 87 true).run Tryz.prog W = .ok (.tuple #[.pointer none, .bool false]) W := fun W v => by kernel_rfl
    have ta88 : ∀ (W : World) (v : Value), (Instr.typeAssert (.iface 25 v) 20 88 true).run Tryz.prog W = .ok (.tuple #[.int .u16 0, .bool false]) W := fun W v => by kernel_rfl
    have ta89 : ∀ (W : World) (v : Value), (Instr.typeAssert (.iface 25 v) 20 89 true).run Tryz.prog W = .ok (.tuple #[.pointer none, .bool false]) W := fun W v => by kernel_rfl
    have ta90 : ∀ (W : World) (v : Value), (Instr.typeAssert (.iface 25 v) 20 90 true).run Tryz.prog W = .ok (.tuple #[.int .u32 0, .bool false]) W := fun W v => by kernel_rfl
    have ta91 : ∀ (W : World) (v : Value), (Instr.typeAssert (.iface 25 v) 20 91 true).run Tryz.prog W = .ok (.tuple #[.pointer none, .bool false]) W := fun W v => by kernel_rfl
    have ta57 : ∀ (W : World) (v : Value), (Instr.typeAssert (.iface 25 v) 20 57 true).run Tryz.prog W = .ok (.tuple #[.int .u64 0, .bool false]) W := fun W v => by kernel_rfl
    have ta92 : ∀ (W : World) (v : Value), (Instr.typeAssert (.iface 25 v) 20 92 true).run Tryz.prog W = .ok (.tuple #[.pointer none, .bool false]) W := fun W v => by kernel_rfl
    have ta93 : ∀ (W : World) (v : Value), (Instr.typeAssert (.iface 25 v) 20 93 true).run Tryz.prog W = .ok (.tuple #[.float .f32 0, .bool false]) W := fun W v => by kernel_rfl
    have ta94 : ∀ (W : World) (v : Value), (Instr.typeAssert (.iface 25 v) 20 94 true).run Tryz.prog W = .ok (.tuple #[.pointer none, .bool false]) W := fun W v => by kernel_rfl
    have ta25 : ∀ (W : World) (v : Value), (Instr.typeAssert (.iface 25 v) 20 25 true).run Tryz.prog W = .ok (.tuple #[v, .bool true]) W := fun W v => by kernel_rfl
    have c0 : (FloatKind.f64.format.order n 13970166044103278592 == some Ordering.lt) = false := hu
    have c1 : (FloatKind.f64.format.order n 4746794007244308480 == some Ordering.gt) = false := ho
    have hcv : ∀ W : World, (convert 25 3 (.float .f64 n)).run Tryz.prog W = .ok (.int .i64 k) W := fun W => run_convert_float_int W 25 3 .f64 .i64 n k (by rw [Tryz.underlying25]; rfl) Tryz.underlying3 hk
    go_enter Tryz.func36, Tryz.ntmps36
    go_wp2_with fail
    go_ret
    exact ⟨rfl, rfl⟩
set_option maxHeartbeats 4000000 in
theorem doorInt_any (V : Value) (k : Int) (h : IntOf V k) (w : World) :
    Calls Tryz.prog 21 #[V] w fun e w' => e = .returned (.iface 3 (.int .i64 k)) ∧ Below w.heap.size w w' := by
  have HZ := Aside0.mk (coerceInt_any V k h w)
  clear h
  go_enter Tryz.func21, Tryz.ntmps21
  go_wp2_with fail
  refine HZ.out.mono ?_
  rintro e w1 ⟨rfl, rfl⟩
  go_wp2_with fail
  go_ret
  exact ⟨rfl, Below.refl _ _⟩
end Go.Proofs.YtdcfbgpcpjjjaaaGreatDoor.Co
