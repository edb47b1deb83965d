/-
  impl.coerced at a value of one node, over a given function.
-/
import Derived.Test.YtdcfbgpcpjjjaaaGreatDoorCl
namespace Go.Proofs.YtdcfbgpcpjjjaaaGreatDoor.Co
open Go.RowKit Go.Proofs.YtdcfbgpcpjjjaaaGreatDoorW.PrintWords Go.Proofs.YtdcfbgpcpjjjaaaGreatDoorW.PrintLast Go.Proofs.YtdcfbgpcpjjjaaaGreatDoorW.PrintMore
open Go.Proofs.YtdcfbgpcpjjjaaaGreatDoor.Fl Go.Proofs.YtdcfbgpcpjjjaaaGreatDoor.Dr Go.Proofs.YtdcfbgpcpjjjaaaGreatDoor.PFnCoerceString
set_option linter.unusedVariables false
set_option linter.unusedSimpArgs false
attribute [local go_sem] run_store_float
set_option maxHeartbeats 4000000 in
theorem coerced19_any (x y : V4) (V V' : Value) (hx : GoV x V) (hn : Node V' y) (A : Option Addr) (c : Nat) (w : World) (hc : 1 ≤ c) (hC : Kd.C k27 w A 1 [x])
    (hf : ∀ W, Below w.heap.size w W → Calls Tryz.prog 19 #[V] W fun e w' => e = .returned V' ∧ Below W.heap.size W w') :
    Calls Tryz.prog 18 #[.slice A 1 c, .func (.func 19) #[] #[]] w fun e w' => ∃ v, e = .returned (.tuple #[v, .bool true]) ∧ Is1 w' v y ∧ Below w.heap.size w w' := by
  have HW := Aside0.mk (whole_any x V hx A c w hc hC)
  have HF := Aside0.mk hf
  have HP := Aside0.mk (putValue_any V' y hn)
  have hta : ∃ d v, V = .iface d v ∧ (∀ W : World, (Instr.typeAssert (.iface d v) 20 48 true).run Tryz.prog W = .ok (.tuple #[.slice none 0 0, .bool false]) W) ∧
      (∀ W : World, (Instr.typeAssert (.iface d v) 20 49 true).run Tryz.prog W = .ok (.tuple #[.map none, .bool false]) W) ∧
      (∀ W : World, (Instr.typeAssert (.iface d v) 20 51 true).run Tryz.prog W = .ok (.tuple #[.agg #[], .bool false]) W) := by
    cases hx <;> exact ⟨_, _, rfl, fun W => by kernel_rfl, fun W => by kernel_rfl, fun W => by kernel_rfl⟩
  have hv' : ∃ d v, V' = .iface d v := by cases hn <;> exact ⟨_, _, rfl⟩
  clear hx hn hC hf
  obtain ⟨d, v, rfl, ta48, ta49, ta51⟩ := hta
  obtain ⟨d', v', rfl⟩ := hv'
  go_enter Tryz.func18, Tryz.ntmps18
  go_wp2_with fail
  refine HW.out.mono ?_
  rintro e w1 ⟨rfl, hb⟩
  have HB := Aside0.mk hb
  clear hb
  go_wp2_with fail
  refine (HF.out _ HB.out).mono ?_
  rintro e w2 ⟨rfl, hb⟩
  have HB2 := Aside0.mk (below_step HB.out hb)
  clear hb
  go_wp2_with fail
  refine (HP.out _).mono ?_
  rintro e w3 ⟨u, rfl, h1, hb⟩
  have H1 := Aside0.mk h1
  have HB3 := Aside0.mk (below_step HB2.out hb)
  clear hb h1
  go_wp2_with fail
  go_ret2
  exact ⟨u, rfl, H1.out, HB3.out⟩
set_option maxHeartbeats 4000000 in
theorem implString_any (x y : V4) (V V' : Value) (hx : GoV x V) (hn : Node V' y) (A : Option Addr) (c : Nat) (w : World) (hc : 1 ≤ c) (hC : Kd.C k27 w A 1 [x])
    (hf : ∀ W, Below w.heap.size w W → Calls Tryz.prog 19 #[V] W fun e w' => e = .returned V' ∧ Below W.heap.size W w') :
    Calls Tryz.prog 8 #[.slice A 1 c] w fun e w' => ∃ v, e = .returned (.tuple #[v, .bool true]) ∧ Is1 w' v y ∧ Below w.heap.size w w' := by
  have HC := Aside0.mk (coerced19_any x y V V' hx hn A c w hc hC hf)
  clear hx hn hC hf
  go_enter Tryz.func8, Tryz.ntmps8
  go_wp2_with fail
  refine HC.out.mono ?_
  rintro e w1 ⟨v, rfl, h1, hb⟩
  have H1 := Aside0.mk h1
  have HB := Aside0.mk hb
  clear h1 hb
  go_wp2_with fail
  go_ret2
  exact ⟨v, rfl, H1.out, HB.out⟩
set_option maxHeartbeats 4000000 in
theorem coerced21_any (x y : V4) (V V' : Value) (hx : GoV x V) (hn : Node V' y) (A : Option Addr) (c : Nat) (w : World) (hc : 1 ≤ c) (hC : Kd.C k27 w A 1 [x])
    (hf : ∀ W, Below w.heap.size w W → Calls Tryz.prog 21 #[V] W fun e w' => e = .returned V' ∧ Below W.heap.size W w') :
    Calls Tryz.prog 18 #[.slice A 1 c, .func (.func 21) #[] #[]] w fun e w' => ∃ v, e = .returned (.tuple #[v, .bool true]) ∧ Is1 w' v y ∧ Below w.heap.size w w' := by
  have HW := Aside0.mk (whole_any x V hx A c w hc hC)
  have HF := Aside0.mk hf
  have HP := Aside0.mk (putValue_any V' y hn)
  have hta : ∃ d v, V = .iface d v ∧ (∀ W : World, (Instr.typeAssert (.iface d v) 20 48 true).run Tryz.prog W = .ok (.tuple #[.slice none 0 0, .bool false]) W) ∧
      (∀ W : World, (Instr.typeAssert (.iface d v) 20 49 true).run Tryz.prog W = .ok (.tuple #[.map none, .bool false]) W) ∧
      (∀ W : World, (Instr.typeAssert (.iface d v) 20 51 true).run Tryz.prog W = .ok (.tuple #[.agg #[], .bool false]) W) := by
    cases hx <;> exact ⟨_, _, rfl, fun W => by kernel_rfl, fun W => by kernel_rfl, fun W => by kernel_rfl⟩
  have hv' : ∃ d v, V' = .iface d v := by cases hn <;> exact ⟨_, _, rfl⟩
  clear hx hn hC hf
  obtain ⟨d, v, rfl, ta48, ta49, ta51⟩ := hta
  obtain ⟨d', v', rfl⟩ := hv'
  go_enter Tryz.func18, Tryz.ntmps18
  go_wp2_with fail
  refine HW.out.mono ?_
  rintro e w1 ⟨rfl, hb⟩
  have HB := Aside0.mk hb
  clear hb
  go_wp2_with fail
  refine (HF.out _ HB.out).mono ?_
  rintro e w2 ⟨rfl, hb⟩
  have HB2 := Aside0.mk (below_step HB.out hb)
  clear hb
  go_wp2_with fail
  refine (HP.out _).mono ?_
  rintro e w3 ⟨u, rfl, h1, hb⟩
  have H1 := Aside0.mk h1
  have HB3 := Aside0.mk (below_step HB2.out hb)
  clear hb h1
  go_wp2_with fail
  go_ret2
  exact ⟨u, rfl, H1.out, HB3.out⟩
set_option maxHeartbeats 4000000 in
theorem implInt_any (x y : V4) (V V' : Value) (hx : GoV x V) (hn : Node V' y) (A : Option Addr) (c : Nat) (w : World) (hc : 1 ≤ c) (hC : Kd.C k27 w A 1 [x])
    (hf : ∀ W, Below w.heap.size w W → Calls Tryz.prog 21 #[V] W fun e w' => e = .returned V' ∧ Below W.heap.size W w') :
    Calls Tryz.prog 12 #[.slice A 1 c] w fun e w' => ∃ v, e = .returned (.tuple #[v, .bool true]) ∧ Is1 w' v y ∧ Below w.heap.size w w' := by
  have HC := Aside0.mk (coerced21_any x y V V' hx hn A c w hc hC hf)
  clear hx hn hC hf
  go_enter Tryz.func12, Tryz.ntmps12
  go_wp2_with fail
  refine HC.out.mono ?_
  rintro e w1 ⟨v, rfl, h1, hb⟩
  have H1 := Aside0.mk h1
  have HB := Aside0.mk hb
  clear h1 hb
  go_wp2_with fail
  go_ret2
  exact ⟨v, rfl, H1.out, HB.out⟩
end Go.Proofs.YtdcfbgpcpjjjaaaGreatDoor.Co
