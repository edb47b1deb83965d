/-
  impl.FieldValueOf, walked.
-/
import Derived.Test.YtdcfbgpcpjjjaaaGreatGt
namespace Go.Proofs.YtdcfbgpcpjjjaaaGreat.Co
open Go.RowKit Go.Proofs.YtdcfbgpcpjjjaaaGreatW.PrintWords Go.Proofs.YtdcfbgpcpjjjaaaGreatW.PrintLast Go.Proofs.YtdcfbgpcpjjjaaaGreatW.PrintMore
open Go.Proofs.YtdcfbgpcpjjjaaaGreat.Fl Go.Proofs.YtdcfbgpcpjjjaaaGreat.Dr Go.Proofs.YtdcfbgpcpjjjaaaGreat.PFnFieldValueOf
set_option linter.unusedVariables false
set_option linter.unusedSimpArgs false
attribute [local go_sem] run_store_float
open Go.Maps (Keyed)
/-- The argument of DefaultResolveFn. -/
abbrev argR (V : Value) (field : ByteArray) : Value := .agg #[V, .map none, .string field, .slice none 0 0, .pointer none, .nilIface, .nilIface, .map none, .slice none 0 0, .pointer none, .pointer none, .pointer none, .map none, .map none, .pointer none, .map none, .nilIface, .nilIface, .map none]
abbrev nullT : Tr := .mk 1 0 ⟨#[]⟩ []
/-- A tree's member of a name; null without one. -/
inductive MemberT : Tr → ByteArray → Tr → Prop
  | there (n : Nat) (ms : List Mb) (m : Mb) (hm : m ∈ ms) : MemberT (.mk 8 n ⟨#[]⟩ (ms.map Mb.tree)) m.name m.val
  | absent (n : Nat) (ms : List Mb) (field : ByteArray) (h : field ∉ ms.map Mb.name) : MemberT (.mk 8 n ⟨#[]⟩ (ms.map Mb.tree)) field nullT
  | other (t : Tr) (field : ByteArray) (h : t.kind ≠ 8) : MemberT t field nullT
theorem look_map {w : World} {b N : Nat} {D : DataW Value} (h : w.ownsMap Tryz.prog 9 Rv b N D) {field : ByteArray} (hf : field.size ≤ maxLen) {X : Value} (hX : D.atKey (keyL field) (.held .nilIface) = .held X) :
    (Instr.lookup 64 (.map (some b)) (.string field) false).run Tryz.prog w = .ok X w := by
  obtain ⟨v, ps, hr, hv⟩ := h.lookup law9 Tryz.underlying64 (zero20 w) (zd := .held .nilIface) (zp := []) rfl (keyOf_name field hf)
  rw [hX] at hv
  unfold Rv at hv
  simp only [Option.some.injEq, Prod.mk.injEq, DataW.held.injEq] at hv
  rw [hr, hv.1]
/-- What DefaultResolveFn gives. -/
def Resolves (w : World) (V : Value) (field : ByteArray) (X : Value) : Prop := Calls Tryz.prog 16 #[argR V field] w fun e w' => e = .returned (.tuple #[X, .nilIface]) ∧ Below w.heap.size w w'
set_option maxHeartbeats 4000000 in
set_option maxRecDepth 100000 in
theorem resolve_map (b : Nat) (field : ByteArray) (X : Value) (w : World) (h : ∀ o : Obj, (Instr.lookup 64 (.map (some b)) (.string field) false).run Tryz.prog (w.alloc o) = .ok X (w.alloc o)) : Resolves w (.iface 64 (.map (some b))) field X := by
  have ta64 : ∀ (W : World) (v : Value), (Instr.typeAssert (.iface 64 v) 20 64 true).run Tryz.prog W = .ok (.tuple #[v, .bool true]) W := fun W v => by kernel_rfl
  unfold Resolves
  go_enter Tryz.func16, Tryz.ntmps16
  go_wp2_with fail
  go_ret2
  exact ⟨rfl, below_one _ _⟩
set_option maxHeartbeats 4000000 in
set_option maxRecDepth 100000 in
theorem resolve_4 (v : Value) (field : ByteArray) (w : World) : Resolves w (.iface 4 v) field .nilIface := by
  have ta64 : ∀ (W : World) (v : Value), (Instr.typeAssert (.iface 4 v) 20 64 true).run Tryz.prog W = .ok (.tuple #[.map none, .bool false]) W := fun W v => by kernel_rfl
  have HZ := Aside0.mk (zzMember_4 v field)
  unfold Resolves
  go_enter Tryz.func16, Tryz.ntmps16
  go_wp2_with fail
  refine (HZ.out _).mono ?_
  rintro e w1 ⟨rfl, rfl⟩
  go_wp2_with fail
  go_ret2
  exact ⟨rfl, below_one _ _⟩
set_option maxHeartbeats 4000000 in
set_option maxRecDepth 100000 in
theorem resolve_3 (v : Value) (field : ByteArray) (w : World) : Resolves w (.iface 3 v) field .nilIface := by
  have ta64 : ∀ (W : World) (v : Value), (Instr.typeAssert (.iface 3 v) 20 64 true).run Tryz.prog W = .ok (.tuple #[.map none, .bool false]) W := fun W v => by kernel_rfl
  have HZ := Aside0.mk (zzMember_3 v field)
  unfold Resolves
  go_enter Tryz.func16, Tryz.ntmps16
  go_wp2_with fail
  refine (HZ.out _).mono ?_
  rintro e w1 ⟨rfl, rfl⟩
  go_wp2_with fail
  go_ret2
  exact ⟨rfl, below_one _ _⟩
set_option maxHeartbeats 4000000 in
set_option maxRecDepth 100000 in
theorem resolve_25 (v : Value) (field : ByteArray) (w : World) : Resolves w (.iface 25 v) field .nilIface := by
  have ta64 : ∀ (W : World) (v : Value), (Instr.typeAssert (.iface 25 v) 20 64 true).run Tryz.prog W = .ok (.tuple #[.map none, .bool false]) W := fun W v => by kernel_rfl
  have HZ := Aside0.mk (zzMember_25 v field)
  unfold Resolves
  go_enter Tryz.func16, Tryz.ntmps16
  go_wp2_with fail
  refine (HZ.out _).mono ?_
  rintro e w1 ⟨rfl, rfl⟩
  go_wp2_with fail
  go_ret2
  exact ⟨rfl, below_one _ _⟩
set_option maxHeartbeats 4000000 in
set_option maxRecDepth 100000 in
theorem resolve_9 (v : Value) (field : ByteArray) (w : World) : Resolves w (.iface 9 v) field .nilIface := by
  have ta64 : ∀ (W : World) (v : Value), (Instr.typeAssert (.iface 9 v) 20 64 true).run Tryz.prog W = .ok (.tuple #[.map none, .bool false]) W := fun W v => by kernel_rfl
  have HZ := Aside0.mk (zzMember_9 v field)
  unfold Resolves
  go_enter Tryz.func16, Tryz.ntmps16
  go_wp2_with fail
  refine (HZ.out _).mono ?_
  rintro e w1 ⟨rfl, rfl⟩
  go_wp2_with fail
  go_ret2
  exact ⟨rfl, below_one _ _⟩
set_option maxHeartbeats 4000000 in
set_option maxRecDepth 100000 in
theorem resolve_89 (v : Value) (field : ByteArray) (w : World) : Resolves w (.iface 89 v) field .nilIface := by
  have ta64 : ∀ (W : World) (v : Value), (Instr.typeAssert (.iface 89 v) 20 64 true).run Tryz.prog W = .ok (.tuple #[.map none, .bool false]) W := fun W v => by kernel_rfl
  have HZ := Aside0.mk (zzMember_89 v field)
  unfold Resolves
  go_enter Tryz.func16, Tryz.ntmps16
  go_wp2_with fail
  refine (HZ.out _).mono ?_
  rintro e w1 ⟨rfl, rfl⟩
  go_wp2_with fail
  go_ret2
  exact ⟨rfl, below_one _ _⟩
theorem resolves_any {t : Tr} {V : Value} {S : Nat → Prop} {w : World} (hV : RepG w S V t) (h1 : t.kind ≠ 1) (h10 : t.kind ≠ 10) {field : ByteArray} (hf : field.size ≤ maxLen) {t2 : Tr} (hm : MemberT t field t2) : ∃ d u X, V = .iface d u ∧ RepG w S X t2 ∧ Resolves w V field X := by
  have other : t.kind ≠ 8 → t2 = nullT := fun h => by
    cases hm with
    | there n ms m hm => exact absurd rfl h
    | absent n ms _ _ => rfl
    | other _ _ _ => rfl
  cases hV with
  | nul n => exact absurd rfl h1
  | err n => exact absurd rfl h10
  | tru n => obtain rfl := other (by simp [Tr.kind]); exact ⟨_, _, .nilIface, rfl, .nul 0, resolve_4 _ _ _⟩
  | fls n => obtain rfl := other (by simp [Tr.kind]); exact ⟨_, _, .nilIface, rfl, .nul 0, resolve_4 _ _ _⟩
  | int n k hk hb => obtain rfl := other (by simp [Tr.kind]); exact ⟨_, _, .nilIface, rfl, .nul 0, resolve_3 _ _ _⟩
  | flt n => obtain rfl := other (by simp [Tr.kind]); exact ⟨_, _, .nilIface, rfl, .nul 0, resolve_25 _ _ _⟩
  | str n t => obtain rfl := other (by simp [Tr.kind]); exact ⟨_, _, .nilIface, rfl, .nul 0, resolve_9 _ _ _⟩
  | list n ks sv Vs hrow hS hk => obtain rfl := other (by simp [Tr.kind]); exact ⟨_, _, .nilIface, rfl, .nul 0, resolve_89 _ _ _⟩
  | obj n ms b N D Vm ho hb hD hk =>
    generalize hks : ms.map Mb.tree = ks at hm
    cases hm with
    | other _ _ h => exact absurd rfl h
    | absent _ ms2 _ h =>
      obtain rfl := trees_inj hks
      refine ⟨_, _, .nilIface, rfl, .nul 0, resolve_map b field .nilIface w fun o => look_map (ho.alloc o) hf ?_⟩
      refine Go.Maps.atKey_of_not_has ?_ _
      cases hh : Maps.has D (keyL field) with
      | false => rfl
      | true => exact absurd ((hD.has field).1 hh) h
    | there _ ms2 m hm =>
      obtain rfl := trees_inj hks
      exact ⟨_, _, Vm m.name, rfl, hk m hm, resolve_map b m.name (Vm m.name) w fun o => look_map (ho.alloc o) hf (hD.at_ m hm _)⟩
set_option maxHeartbeats 4000000 in
set_option maxRecDepth 100000 in
theorem field_err (t : Tr) (ht : TR true t) (v : List V4) (hv : nodes t = v) (h1 : t.kind ≠ 1) (h10 : t.kind ≠ 10) (field : ByteArray) (hf : field.size ≤ maxLen) (n2 : Nat) (hm : MemberT t field (.mk 10 n2 ⟨#[]⟩ [])) (A : Option Addr) (c : Nat) (w : World) (hC : Kd.C k27 w A v.length v) (hc : v.length ≤ c) (h300 : v.length ≤ 300) :
    Calls Tryz.prog 9 #[.string field, .slice A v.length c] w fun e w' => e = .returned (.tuple #[.slice none 0 0, .bool false]) ∧ Below w.heap.size w w' := by
  have HW := Aside0.mk (whole_any t ht v hv A c w hC hc h300)
  have HM := Aside0.mk hm
  clear hC hm ht hv
  have ta70 : ∀ (W : World) (v : Value), (Instr.typeAssert (.iface 70 v) 20 70 true).run Tryz.prog W = .ok (.tuple #[v, .bool true]) W := fun W v => by kernel_rfl
  go_enter Tryz.func9, Tryz.ntmps9
  go_wp2_with fail
  refine HW.out.mono ?_
  rintro e w1 ⟨V, rfl, hV, hb⟩
  obtain ⟨d, u, X, rfl, hX, hR⟩ := resolves_any hV h1 h10 hf HM.out
  obtain rfl : X = .iface 70 (.agg #[]) := by cases hX; rfl
  have HR := Aside0.mk hR
  have HB := Aside0.mk hb
  clear hV hX hR hb
  go_wp2_with fail
  refine HR.out.mono ?_
  rintro e w2 ⟨rfl, hb⟩
  have HB2 := Aside0.mk (below_step HB.out hb)
  clear hb
  go_wp2_with fail
  go_ret2
  exact ⟨rfl, below_alloc HB2.out _⟩
set_option maxHeartbeats 4000000 in
set_option maxRecDepth 100000 in
theorem field_ok (t : Tr) (ht : TR true t) (v : List V4) (hv : nodes t = v) (h1 : t.kind ≠ 1) (h10 : t.kind ≠ 10) (field : ByteArray) (hf : field.size ≤ maxLen) (t2 : Tr) (ht2 : TR false t2) (hl2 : (nodes t2).length ≤ 1000) (hm : MemberT t field t2) (A : Option Addr) (c : Nat) (w : World) (hC : Kd.C k27 w A v.length v) (hc : v.length ≤ c) (h300 : v.length ≤ 300) :
    Calls Tryz.prog 9 #[.string field, .slice A v.length c] w fun e w' => ∃ l' t', e = .returned (.tuple #[l', .bool true]) ∧ Canon t2 t' ∧ IsL w' l' (nodes t') ∧ Below w.heap.size w w' := by
  have HW := Aside0.mk (whole_any t ht v hv A c w hC hc h300)
  have HM := Aside0.mk hm
  clear hC hm ht hv
  go_enter Tryz.func9, Tryz.ntmps9
  go_wp2_with fail
  refine HW.out.mono ?_
  rintro e w1 ⟨V, rfl, hV, hb⟩
  obtain ⟨d, u, X, rfl, hX, hR⟩ := resolves_any hV h1 h10 hf HM.out
  have hta : ∀ W : World, (Instr.typeAssert X 20 70 true).run Tryz.prog W = .ok (.tuple #[.agg #[], .bool false]) W := by
    cases hX with
    | err n => cases ht2 with | err _ _ he => cases he
    | _ => exact fun W => by kernel_rfl
  have HX := Aside0.mk hX
  have HR := Aside0.mk hR
  have HB := Aside0.mk hb
  clear hV hX hR hb
  go_wp2_with fail
  refine HR.out.mono ?_
  rintro e w2 ⟨rfl, hb⟩
  have HB2 := Aside0.mk (below_step HB.out hb)
  have HX2 : Aside0 (RepG w2 (fun k => k < w2.heap.size) X t2) := ⟨HX.out.frame fun k hk => ⟨Nat.lt_of_lt_of_le hk.2 hb.size, hb.block k hk.2⟩⟩
  clear hb
  have HP := Aside0.mk (fun o : Obj => putValue_any t2 ht2 X (fun k => k < (w2.alloc o).heap.size) (w2.alloc o) (HX2.out.frame fun k hk => ⟨by rw [size_alloc]; omega, (below_one w2 o).block k hk⟩) (fun k hk => hk) hl2)
  go_wp2_with fail
  refine (HP.out _).mono ?_
  rintro e w3 ⟨l', t', rfl, hc', hi, hb3⟩
  have HC3 := Aside0.mk hc'
  have HI3 := Aside0.mk hi
  have HB3 := Aside0.mk (below_step (below_alloc HB2.out _) hb3)
  clear hc' hi hb3
  go_wp2_with fail
  go_ret2
  exact ⟨l', t', rfl, HC3.out, HI3.out, HB3.out⟩
end Go.Proofs.YtdcfbgpcpjjjaaaGreat.Co
