/-
  Values of one node as Go has them; the way back.
-/
import Derived.Test.YtdcfbgpcpjjjaaaGreatDoorCj
namespace Go.Proofs.YtdcfbgpcpjjjaaaGreatDoor.Co
open Go.RowKit Go.Proofs.YtdcfbgpcpjjjaaaGreatDoorW.PrintWords Go.Proofs.YtdcfbgpcpjjjaaaGreatDoorW.PrintLast Go.Proofs.YtdcfbgpcpjjjaaaGreatDoorW.PrintMore
open Go.Proofs.YtdcfbgpcpjjjaaaGreatDoor.Fl Go.Proofs.YtdcfbgpcpjjjaaaGreatDoor.Dr Go.Proofs.YtdcfbgpcpjjjaaaGreatDoor.PFnCoerceString
set_option linter.unusedVariables false
set_option linter.unusedSimpArgs false
attribute [local go_sem] run_store_float
/-- The value, as Go has it: of a boolean, a number or a text. -/
inductive GoV : V4 → Value → Prop
  | tru (n : Nat) (t : ByteArray) : GoV ⟨2, n, t, 1⟩ (.iface 4 (.bool true))
  | fls (n : Nat) (t : ByteArray) : GoV ⟨3, n, t, 1⟩ (.iface 4 (.bool false))
  | num (n : Nat) (t : ByteArray) (k : Int) (h : Go.floatToIntVal .f64 n .i64 = some k) : GoV ⟨4, n, t, 1⟩ (.iface 3 (.int .i64 k))
  | flt (n : Nat) (t : ByteArray) : GoV ⟨5, n, t, 1⟩ (.iface 25 (.float .f64 n))
  | txt (n : Nat) (t : ByteArray) : GoV ⟨6, n, t, 1⟩ (.iface 9 (.string t))
set_option maxHeartbeats 4000000 in
theorem goOf_any (x : V4) (V : Value) (h : GoV x V) (A : Option Addr) (c : Nat) (w : World) (hc : 1 ≤ c) (hC : Kd.C k27 w A 1 [x]) :
    Calls Tryz.prog 46 #[.slice A 1 c, .int .i64 0] w fun e w' => e = .returned (.tuple #[V, .bool true]) ∧ Below w.heap.size w w' := by
  obtain ⟨ad, rfl, p0, p1, p2, p3⟩ := Is1.at0 (c := c) hC
  clear hC
  have hl := World.block_lt_of_cell? w _ p0
  cases h with
  | txt n t =>
    dsimp only at p0 p1 p2 p3
    go_enter Tryz.func46, Tryz.ntmps46
    go_wp2_with fail
    go_region
    go_wp2_with fail
    go_region
    go_wp2_with fail
    go_ret2
    exact ⟨rfl, below_drew (below_drew (below_one _ _))⟩
  | tru n t =>
    dsimp only at p0 p1 p2 p3
    go_enter Tryz.func46, Tryz.ntmps46
    go_wp2_with fail
    go_region
    go_wp2_with fail
    go_region
    go_wp2_with fail
    go_ret2
    exact ⟨rfl, below_drew (below_drew (below_one _ _))⟩
  | fls n t =>
    dsimp only at p0 p1 p2 p3
    go_enter Tryz.func46, Tryz.ntmps46
    go_wp2_with fail
    go_region
    go_wp2_with fail
    go_region
    go_wp2_with fail
    go_ret2
    exact ⟨rfl, below_drew (below_drew (below_one _ _))⟩
  | flt n t =>
    dsimp only at p0 p1 p2 p3
    go_enter Tryz.func46, Tryz.ntmps46
    go_wp2_with fail
    go_region
    go_wp2_with fail
    go_region
    go_wp2_with fail
    go_ret2
    exact ⟨rfl, below_drew (below_drew (below_one _ _))⟩
  | num n t k h =>
    dsimp only at p0 p1 p2 p3
    have hcv : ∀ W : World, (convert 25 3 (.float .f64 n)).run Tryz.prog W = .ok (.int .i64 k) W := fun W => run_convert_float_int W 25 3 .f64 .i64 n k (by rw [Tryz.underlying25]; rfl) Tryz.underlying3 h
    go_enter Tryz.func46, Tryz.ntmps46
    go_wp2_with fail
    go_region
    go_wp2_with fail
    go_region
    go_wp2_with fail
    go_ret2
    exact ⟨rfl, below_drew (below_drew (below_one _ _))⟩
theorem GoV.size {x : V4} {V : Value} (h : GoV x V) : x.size = 1 := by cases h <;> rfl
set_option maxHeartbeats 4000000 in
theorem whole_any (x : V4) (V : Value) (h : GoV x V) (A : Option Addr) (c : Nat) (w : World) (hc : 1 ≤ c) (hC : Kd.C k27 w A 1 [x]) :
    Calls Tryz.prog 31 #[.slice A 1 c] w fun e w' => e = .returned (.tuple #[V, .bool true]) ∧ Below w.heap.size w w' := by
  have HG := Aside0.mk (goOf_any x V h A c w hc hC)
  have hs := h.size
  obtain ⟨ad, rfl, -, -, -, p3⟩ := Is1.at0 (c := c) hC
  rw [hs] at p3
  clear hC h
  go_enter Tryz.func31, Tryz.ntmps31
  go_wp2_with fail
  refine HG.out.mono ?_
  rintro e w1 ⟨rfl, hb⟩
  have HB := Aside0.mk hb
  clear hb
  go_wp2_with fail
  go_ret2
  exact ⟨rfl, HB.out⟩
/-- The way back: the node of a value. -/
inductive Node : Value → V4 → Prop
  | int (k : Int) : Node (.iface 3 (.int .i64 k)) ⟨4, FloatKind.f64.nearest k, ⟨#[]⟩, 1⟩
  | txt (t : ByteArray) : Node (.iface 9 (.string t)) ⟨6, 0, t, 1⟩
theorem kd27_R {w : World} {base : Nat} {v : Value} {x : V4} (h : Kd.R k27 27 w base (fun _ => True) v [x]) : Is1 w v x := by
  obtain ⟨A, c, rfl, hc, hC⟩ := Kd.R_reads h
  exact ⟨A, c, rfl, hc, hC⟩
set_option maxHeartbeats 4000000 in
set_option maxRecDepth 100000 in
theorem putTyped_any (V : Value) (y : V4) (h : Node V y) (w : World) :
    Calls Tryz.prog 47 #[.slice none 0 0, V, .string ⟨#[]⟩, .nilFunc] w fun e w' => ∃ v, e = .returned v ∧ Is1 w' v y ∧ Below w.heap.size w w' := by
  have HO := Aside0.mk (Kd.R_nil k27 27 w w.heap.size (fun _ => True))
  cases h with
  | txt t =>
    have ta4 : ∀ (W : World) (v : Value), (Instr.typeAssert (.iface 9 v) 20 4 true).run Tryz.prog W = .ok (.tuple #[.bool false, .bool false]) W := fun W v => by kernel_rfl
    have ta3 : ∀ (W : World) (v : Value), (Instr.typeAssert (.iface 9 v) 20 3 true).run Tryz.prog W = .ok (.tuple #[.int .i64 0, .bool false]) W := fun W v => by kernel_rfl
    have ta25 : ∀ (W : World) (v : Value), (Instr.typeAssert (.iface 9 v) 20 25 true).run Tryz.prog W = .ok (.tuple #[.float .f64 0, .bool false]) W := fun W v => by kernel_rfl
    have ta9 : ∀ (W : World) (v : Value), (Instr.typeAssert (.iface 9 v) 20 9 true).run Tryz.prog W = .ok (.tuple #[v, .bool true]) W := fun W v => by kernel_rfl
    go_enter Tryz.func47, Tryz.ntmps47
    go_wp2_with (at_builtin; refine Kd.R_append k27 (w0 := w) w.heap.size rfl (.tmp 59) (.tmp 62) 22 27 (.agg #[.int .i64 0, .float .f64 0, .string ⟨#[]⟩, .int .i64 0]) 40 rfl Tryz.underlying22 info27 rfl (by decide) (by decide) (.slice none 0 0) [] ⟨6, 0, t, 1⟩ (cs4 ⟨6, 0, t, 1⟩) (fun _ => True) (fun _ => False) rfl rfl (k27_mkM _ _ _ _) (fun _ hk => hk.elim) (fun _ _ => trivial) HO.out (Below.refl _ _) (Nat.le_refl _) (by decide) ?_; intro v6 w6 hR6 hB6 hg6 hat6; have HR6 := Aside0.mk (kd27_R hR6); have HB6 := Aside0.mk hB6; clear hR6 hB6 hg6 hat6)
    go_ret
    exact ⟨_, rfl, HR6.out, HB6.out⟩
  | int k =>
    have ta4 : ∀ (W : World) (v : Value), (Instr.typeAssert (.iface 3 v) 20 4 true).run Tryz.prog W = .ok (.tuple #[.bool false, .bool false]) W := fun W v => by kernel_rfl
    have ta3 : ∀ (W : World) (v : Value), (Instr.typeAssert (.iface 3 v) 20 3 true).run Tryz.prog W = .ok (.tuple #[v, .bool true]) W := fun W v => by kernel_rfl
    have hcv : ∀ W : World, (convert 3 25 (.int .i64 k)).run Tryz.prog W = .ok (.float .f64 (FloatKind.f64.nearest k)) W := fun W => by kernel_rfl
    go_enter Tryz.func47, Tryz.ntmps47
    go_wp2_with (at_builtin; refine Kd.R_append k27 (w0 := w) w.heap.size rfl (.tmp 42) (.tmp 46) 22 27 (.agg #[.int .i64 0, .float .f64 0, .string ⟨#[]⟩, .int .i64 0]) 40 rfl Tryz.underlying22 info27 rfl (by decide) (by decide) (.slice none 0 0) [] ⟨4, FloatKind.f64.nearest k, ⟨#[]⟩, 1⟩ (cs4 ⟨4, FloatKind.f64.nearest k, ⟨#[]⟩, 1⟩) (fun _ => True) (fun _ => False) rfl rfl (k27_mkM _ _ _ _) (fun _ hk => hk.elim) (fun _ _ => trivial) HO.out (Below.refl _ _) (Nat.le_refl _) (by decide) ?_; intro v6 w6 hR6 hB6 hg6 hat6; have HR6 := Aside0.mk (kd27_R hR6); have HB6 := Aside0.mk hB6; clear hR6 hB6 hg6 hat6)
    go_ret
    exact ⟨_, rfl, HR6.out, HB6.out⟩
set_option maxHeartbeats 4000000 in
theorem putValue_any (V : Value) (y : V4) (h : Node V y) (w : World) :
    Calls Tryz.prog 32 #[.slice none 0 0, V, .nilFunc] w fun e w' => ∃ v, e = .returned v ∧ Is1 w' v y ∧ Below w.heap.size w w' := by
  have HP := Aside0.mk (putTyped_any V y h w)
  clear h
  go_enter Tryz.func32, Tryz.ntmps32
  go_wp2_with fail
  refine HP.out.mono ?_
  rintro e w1 ⟨v, rfl, h1, hb⟩
  have H1 := Aside0.mk h1
  have HB := Aside0.mk hb
  clear h1 hb
  go_wp2_with fail
  go_ret
  exact ⟨v, rfl, H1.out, HB.out⟩
end Go.Proofs.YtdcfbgpcpjjjaaaGreatDoor.Co
