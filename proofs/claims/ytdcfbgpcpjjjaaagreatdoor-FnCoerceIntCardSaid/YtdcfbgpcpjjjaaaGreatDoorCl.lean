/-
  graphql.CoerceString at a value of one node, walked; the text that the reference asks for.
-/
import Derived.Test.YtdcfbgpcpjjjaaaGreatDoorCk
import Derived.Test.YtdcfbgpcpjjjaaaGreatDoorShelf
import Derived.Lib.AppendIntMem
namespace Go.Proofs.YtdcfbgpcpjjjaaaGreatDoor.Co
open Go.RowKit Go.Proofs.YtdcfbgpcpjjjaaaGreatDoorW.PrintWords Go.Proofs.YtdcfbgpcpjjjaaaGreatDoorW.PrintLast Go.Proofs.YtdcfbgpcpjjjaaaGreatDoorW.PrintMore
open Go.Proofs.YtdcfbgpcpjjjaaaGreatDoor.Fl Go.Proofs.YtdcfbgpcpjjjaaaGreatDoor.Dr Go.Proofs.YtdcfbgpcpjjjaaaGreatDoor.PFnCoerceString
set_option linter.unusedVariables false
set_option linter.unusedSimpArgs false
attribute [local go_sem] run_store_float
abbrev TabAt (w : World) : Prop := Lib.TabIs Tryz.prog w "internal/strconv.uint64pow10" .u64 Lib.pow10Tab
/-- The digits of a whole number. -/
def digitsOf (k : Int) : ByteArray := ⟨(Lib.itoa k).toArray⟩
/-- What CoerceString makes of a value. -/
inductive TextOf : Value → ByteArray → Prop
  | tru : TextOf (.iface 4 (.bool true)) ⟨#[116, 114, 117, 101]⟩
  | fls : TextOf (.iface 4 (.bool false)) ⟨#[102, 97, 108, 115, 101]⟩
  | num (k : Int) (h0 : -9223372036854775808 ≤ k) (h1 : k ≤ 9223372036854775807) : TextOf (.iface 3 (.int .i64 k)) (digitsOf k)
  | txt (t : ByteArray) : TextOf (.iface 9 (.string t)) t
theorem itoa_any (k : Int) (h0 : -9223372036854775808 ≤ k) (h1 : k ≤ 9223372036854775807) (w : World) (hT : TabAt w) :
    Calls Tryz.prog 58 #[.int .i64 k] w fun e w' => e = .returned (.string (digitsOf k)) ∧ Below w.heap.size w w' := by
  refine (Go.Proofs.Tryz.strconv_Itoa k h0 h1 w hT).mono ?_
  rintro e w' ⟨rfl, m, os, rfl⟩
  exact ⟨rfl, Lib.below_grow _ w (Nat.le_refl _) m os⟩
set_option maxHeartbeats 4000000 in
theorem zzText_any (V : Value) (t : ByteArray) (h : TextOf V t) (w : World) (hT : TabAt w) :
    Calls Tryz.prog 48 #[V] w fun e w' => e = .returned (.string t) ∧ Below w.heap.size w w' := by
  cases h with
  | txt t =>
    have ta9 : ∀ (W : World) (v : Value), (Instr.typeAssert (.iface 9 v) 20 9 true).run Tryz.prog W = .ok (.tuple #[v, .bool true]) W := fun W v => by kernel_rfl
    go_enter Tryz.func48, Tryz.ntmps48
    go_wp2_with fail
    go_ret
    exact ⟨rfl, Below.refl _ _⟩
  | tru =>
    have ta9 : ∀ (W : World) (v : Value), (Instr.typeAssert (.iface 4 v) 20 9 true).run Tryz.prog W = .ok (.tuple #[.string ⟨#[]⟩, .bool false]) W := fun W v => by kernel_rfl
    have ta4 : ∀ (W : World) (v : Value), (Instr.typeAssert (.iface 4 v) 20 4 true).run Tryz.prog W = .ok (.tuple #[v, .bool true]) W := fun W v => by kernel_rfl
    go_enter Tryz.func48, Tryz.ntmps48
    go_wp2_with fail
    go_ret
    exact ⟨rfl, Below.refl _ _⟩
  | fls =>
    have ta9 : ∀ (W : World) (v : Value), (Instr.typeAssert (.iface 4 v) 20 9 true).run Tryz.prog W = .ok (.tuple #[.string ⟨#[]⟩, .bool false]) W := fun W v => by kernel_rfl
    have ta4 : ∀ (W : World) (v : Value), (Instr.typeAssert (.iface 4 v) 20 4 true).run Tryz.prog W = .ok (.tuple #[v, .bool true]) W := fun W v => by kernel_rfl
    go_enter Tryz.func48, Tryz.ntmps48
    go_wp2_with fail
    go_ret
    exact ⟨rfl, Below.refl _ _⟩
  | num k h0 h1 =>
    have HI := Aside0.mk (itoa_any k h0 h1 w hT)
    have ta9 : ∀ (W : World) (v : Value), (Instr.typeAssert (.iface 3 v) 20 9 true).run Tryz.prog W = .ok (.tuple #[.string ⟨#[]⟩, .bool false]) W := fun W v => by kernel_rfl
    have ta4 : ∀ (W : World) (v : Value), (Instr.typeAssert (.iface 3 v) 20 4 true).run Tryz.prog W = .ok (.tuple #[.bool false, .bool false]) W := fun W v => by kernel_rfl
    have ta3 : ∀ (W : World) (v : Value), (Instr.typeAssert (.iface 3 v) 20 3 true).run Tryz.prog W = .ok (.tuple #[v, .bool true]) W := fun W v => by kernel_rfl
    go_enter Tryz.func48, Tryz.ntmps48
    go_wp2_with fail
    refine HI.out.mono ?_
    rintro e w1 ⟨rfl, hb⟩
    have HB := Aside0.mk hb
    clear hb
    go_wp2_with fail
    go_ret
    exact ⟨rfl, HB.out⟩
set_option maxHeartbeats 4000000 in
theorem coerceString_any (V : Value) (t : ByteArray) (h : TextOf V t) (w : World) (hT : TabAt w) :
    Calls Tryz.prog 33 #[V] w fun e w' => e = .returned (.iface 9 (.string t)) ∧ Below w.heap.size w w' := by
  have HZ := Aside0.mk (zzText_any V t h w hT)
  have hta : ∃ d v, V = .iface d v ∧ ∀ W : World, (Instr.typeAssert (.iface d v) 20 75 true).run Tryz.prog W = .ok (.tuple #[.pointer none, .bool false]) W := by
    cases h with
    | txt t => exact ⟨9, _, rfl, fun W => by kernel_rfl⟩
    | tru => exact ⟨4, _, rfl, fun W => by kernel_rfl⟩
    | fls => exact ⟨4, _, rfl, fun W => by kernel_rfl⟩
    | num k h0 h1 => exact ⟨3, _, rfl, fun W => by kernel_rfl⟩
  clear h
  obtain ⟨d, v, rfl, ta⟩ := hta
  go_enter Tryz.func33, Tryz.ntmps33
  go_wp2_with fail
  refine HZ.out.mono ?_
  rintro e w1 ⟨rfl, hb⟩
  have HB := Aside0.mk hb
  clear hb
  go_wp2_with fail
  go_ret
  exact ⟨rfl, HB.out⟩
set_option maxHeartbeats 4000000 in
theorem doorString_any (V : Value) (t : ByteArray) (h : TextOf V t) (w : World) (hT : TabAt w) :
    Calls Tryz.prog 19 #[V] w fun e w' => e = .returned (.iface 9 (.string t)) ∧ Below w.heap.size w w' := by
  have HZ := Aside0.mk (coerceString_any V t h w hT)
  clear h
  go_enter Tryz.func19, Tryz.ntmps19
  go_wp2_with fail
  refine HZ.out.mono ?_
  rintro e w1 ⟨rfl, hb⟩
  have HB := Aside0.mk hb
  clear hb
  go_wp2_with fail
  go_ret
  exact ⟨rfl, HB.out⟩
end Go.Proofs.YtdcfbgpcpjjjaaaGreatDoor.Co
