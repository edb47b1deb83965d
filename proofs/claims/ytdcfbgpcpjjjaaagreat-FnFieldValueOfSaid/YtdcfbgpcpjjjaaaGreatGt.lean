/-
  impl.putTyped at every right tree without errors, impl.putValue; graphql's way to a member: a map's member, nothing of other values.
-/
import Derived.Test.YtdcfbgpcpjjjaaaGreatGs
namespace Go.Proofs.YtdcfbgpcpjjjaaaGreat.Co
open Go.RowKit Go.Proofs.YtdcfbgpcpjjjaaaGreatW.PrintWords Go.Proofs.YtdcfbgpcpjjjaaaGreatW.PrintLast Go.Proofs.YtdcfbgpcpjjjaaaGreatW.PrintMore
open Go.Proofs.YtdcfbgpcpjjjaaaGreat.Fl Go.Proofs.YtdcfbgpcpjjjaaaGreat.Dr Go.Proofs.YtdcfbgpcpjjjaaaGreat.PFnFieldValueOf
set_option linter.unusedVariables false
set_option linter.unusedSimpArgs false
attribute [local go_sem] run_store_float
set_option maxHeartbeats 4000000 in
set_option maxRecDepth 100000 in
theorem puts_obj (n : Nat) (ms : List Mb) (hsz : ∀ m, m ∈ ms → m.name.size ≤ 100) (hdn : (ms.map Mb.name).Nodup) (IH : ∀ m, m ∈ ms → PutsAt m.val) : PutsAt (.mk 8 n ⟨#[]⟩ (ms.map Mb.tree)) := by
  intro V Ls base l w hR hb hV hl
  obtain ⟨b, rfl⟩ : ∃ b, V = .iface 64 (.map (some b)) := by
    generalize ms.map Mb.tree = ks at hV
    cases hV
    exact ⟨_, rfl⟩
  have HP := Aside0.mk (putMembers_any n ms hsz hdn IH b Ls base l w hR hb hV (by simp [nodes] at hl; omega))
  obtain ⟨A, cl, rfl⟩ := Kd.R_slice hR
  have ta4 : ∀ (W : World) (v : Value), (Instr.typeAssert (.iface 64 v) 20 4 true).run Tryz.prog W = .ok (.tuple #[.bool false, .bool false]) W := fun W v => by kernel_rfl
  have ta3 : ∀ (W : World) (v : Value), (Instr.typeAssert (.iface 64 v) 20 3 true).run Tryz.prog W = .ok (.tuple #[.int .i64 0, .bool false]) W := fun W v => by kernel_rfl
  have ta25 : ∀ (W : World) (v : Value), (Instr.typeAssert (.iface 64 v) 20 25 true).run Tryz.prog W = .ok (.tuple #[.float .f64 0, .bool false]) W := fun W v => by kernel_rfl
  have ta9 : ∀ (W : World) (v : Value), (Instr.typeAssert (.iface 64 v) 20 9 true).run Tryz.prog W = .ok (.tuple #[.string ⟨#[]⟩, .bool false]) W := fun W v => by kernel_rfl
  have ta89 : ∀ (W : World) (v : Value), (Instr.typeAssert (.iface 64 v) 20 89 true).run Tryz.prog W = .ok (.tuple #[.slice none 0 0, .bool false]) W := fun W v => by kernel_rfl
  have ta64 : ∀ (W : World) (v : Value), (Instr.typeAssert (.iface 64 v) 20 64 true).run Tryz.prog W = .ok (.tuple #[v, .bool true]) W := fun W v => by kernel_rfl
  clear hR hV hl IH hdn hsz
  go_enter Tryz.func27, Tryz.ntmps27
  go_wp2_with fail
  refine HP.out.mono ?_
  rintro e w1 ⟨l', t', rfl, hc, ho⟩
  have HC := Aside0.mk hc
  have HO := Aside0.mk ho
  clear hc ho
  go_wp2_with fail
  go_ret
  exact ⟨l', t', rfl, HC.out, HO.out⟩
theorem puts_any : ∀ n t, TR false t → (nodes t).length ≤ n → PutsAt t
  | 0, t, _, hl => by have := nodes_pos t; omega
  | n + 1, t, h, hl => by
    cases h with
    | nul n hn => exact puts_nul n
    | tru n hn => exact puts_tru n
    | fls n hn => exact puts_fls n
    | err n hn he => cases he
    | int n hn => exact puts_int n
    | flt n hn => exact puts_flt n
    | str n t hn ht => exact puts_str n t
    | list m ks hn hk =>
      refine puts_list m ks fun s hs => puts_any n s (hk s hs) ?_
      have := mem_len hs
      simp [nodes] at hl
      omega
    | obj m ms hn hz hd hk =>
      refine puts_obj m ms (fun x hx => (hz x hx).2) hd fun x hx => puts_any n x.val (hk x hx) ?_
      have h1 := mem_len (List.mem_map_of_mem (f := Mb.tree) hx)
      have h2 := tree_len x
      simp [nodes] at hl
      omega
/-- Nodes in memory. -/
def IsL (w : World) (v : Value) (L : List V4) : Prop := ∃ A c, v = .slice A L.length c ∧ L.length ≤ c ∧ Kd.C k27 w A L.length L
theorem IsL.below {w w' : World} {v : Value} {L : List V4} (h : IsL w v L) (hb : Below w.heap.size w w') : IsL w' v L := by
  obtain ⟨A, c, e, hc, hC⟩ := h
  exact ⟨A, c, e, hc, Kd.C_below hC hb⟩
set_option maxHeartbeats 4000000 in
theorem putValue_any (t : Tr) (ht : TR false t) (V : Value) (S : Nat → Prop) (w : World) (hV : RepG w S V t) (hS : ∀ k, S k → k < w.heap.size) (hl : (nodes t).length ≤ 1000) :
    Calls Tryz.prog 17 #[.slice none 0 0, V, .nilFunc] w fun e w' => ∃ l' t', e = .returned l' ∧ Canon t t' ∧ IsL w' l' (nodes t') ∧ Below w.heap.size w w' := by
  have HP := Aside0.mk (puts_any _ t ht (Nat.le_refl _) V [] w.heap.size (.slice none 0 0) w (Kd.R_nil _ _ _ _ _) (Nat.le_refl _) (hV.frame fun k hk => ⟨⟨hS k hk, by simp [Value.ownBlock]⟩, rfl⟩) (by simpa using hl))
  clear hV
  go_enter Tryz.func17, Tryz.ntmps17
  go_wp2_with fail
  refine HP.out.mono ?_
  rintro e w1 ⟨l', t', rfl, hc, ho⟩
  have HC := Aside0.mk hc
  have HI : Aside0 (IsL w1 l' (nodes t')) := ⟨by obtain ⟨A, c, e, hc, hC⟩ := Kd.R_reads ho.row; exact ⟨A, c, e, hc, hC⟩⟩
  have HB : Aside0 (Below w.heap.size w w1) := ⟨pw_below_grown (Below.refl _ _) _ (Nat.le_refl _) ho.grw (fun k e => by simp [Value.ownBlock] at e)⟩
  clear hc ho
  go_wp2_with fail
  go_ret
  exact ⟨l', t', rfl, HC.out, HI.out, HB.out⟩
set_option maxHeartbeats 4000000 in
set_option maxRecDepth 100000 in
theorem zzMember_4 (v : Value) (name : ByteArray) (w : World) : Calls Tryz.prog 26 #[.iface 4 v, .string name] w fun e w' => e = .returned .nilIface ∧ w' = w := by
  have ta91 : ∀ (W : World) (v : Value), (Instr.typeAssert (.iface 4 v) 20 91 true).run Tryz.prog W = .ok (.tuple #[.pointer none, .bool false]) W := fun W v => by kernel_rfl
  have ta55 : ∀ (W : World) (v : Value), (Instr.typeAssert (.iface 4 v) 20 55 true).run Tryz.prog W = .ok (.tuple #[.pointer none, .bool false]) W := fun W v => by kernel_rfl
  have ta110 : ∀ (W : World) (v : Value), (Instr.typeAssert (.iface 4 v) 20 110 true).run Tryz.prog W = .ok (.tuple #[.pointer none, .bool false]) W := fun W v => by kernel_rfl
  have ta117 : ∀ (W : World) (v : Value), (Instr.typeAssert (.iface 4 v) 20 117 true).run Tryz.prog W = .ok (.tuple #[.pointer none, .bool false]) W := fun W v => by kernel_rfl
  have ta124 : ∀ (W : World) (v : Value), (Instr.typeAssert (.iface 4 v) 20 124 true).run Tryz.prog W = .ok (.tuple #[.pointer none, .bool false]) W := fun W v => by kernel_rfl
  have ta134 : ∀ (W : World) (v : Value), (Instr.typeAssert (.iface 4 v) 20 134 true).run Tryz.prog W = .ok (.tuple #[.pointer none, .bool false]) W := fun W v => by kernel_rfl
  have ta141 : ∀ (W : World) (v : Value), (Instr.typeAssert (.iface 4 v) 20 141 true).run Tryz.prog W = .ok (.tuple #[.pointer none, .bool false]) W := fun W v => by kernel_rfl
  have ta145 : ∀ (W : World) (v : Value), (Instr.typeAssert (.iface 4 v) 20 145 true).run Tryz.prog W = .ok (.tuple #[.pointer none, .bool false]) W := fun W v => by kernel_rfl
  have ta147 : ∀ (W : World) (v : Value), (Instr.typeAssert (.iface 4 v) 20 147 true).run Tryz.prog W = .ok (.tuple #[.pointer none, .bool false]) W := fun W v => by kernel_rfl
  have ta152 : ∀ (W : World) (v : Value), (Instr.typeAssert (.iface 4 v) 20 152 true).run Tryz.prog W = .ok (.tuple #[.pointer none, .bool false]) W := fun W v => by kernel_rfl
  have ta156 : ∀ (W : World) (v : Value), (Instr.typeAssert (.iface 4 v) 20 156 true).run Tryz.prog W = .ok (.tuple #[.pointer none, .bool false]) W := fun W v => by kernel_rfl
  have ta158 : ∀ (W : World) (v : Value), (Instr.typeAssert (.iface 4 v) 20 158 true).run Tryz.prog W = .ok (.tuple #[.pointer none, .bool false]) W := fun W v => by kernel_rfl
  have ta161 : ∀ (W : World) (v : Value), (Instr.typeAssert (.iface 4 v) 20 161 true).run Tryz.prog W = .ok (.tuple #[.pointer none, .bool false]) W := fun W v => by kernel_rfl
  go_enter Tryz.func26, Tryz.ntmps26
  go_wp2_with fail
  go_ret
  exact ⟨rfl, rfl⟩
set_option maxHeartbeats 4000000 in
set_option maxRecDepth 100000 in
theorem zzMember_3 (v : Value) (name : ByteArray) (w : World) : Calls Tryz.prog 26 #[.iface 3 v, .string name] w fun e w' => e = .returned .nilIface ∧ w' = w := by
  have ta91 : ∀ (W : World) (v : Value), (Instr.typeAssert (.iface 3 v) 20 91 true).run Tryz.prog W = .ok (.tuple #[.pointer none, .bool false]) W := fun W v => by kernel_rfl
  have ta55 : ∀ (W : World) (v : Value), (Instr.typeAssert (.iface 3 v) 20 55 true).run Tryz.prog W = .ok (.tuple #[.pointer none, .bool false]) W := fun W v => by kernel_rfl
  have ta110 : ∀ (W : World) (v : Value), (Instr.typeAssert (.iface 3 v) 20 110 true).run Tryz.prog W = .ok (.tuple #[.pointer none, .bool false]) W := fun W v => by kernel_rfl
  have ta117 : ∀ (W : World) (v : Value), (Instr.typeAssert (.iface 3 v) 20 117 true).run Tryz.prog W = .ok (.tuple #[.pointer none, .bool false]) W := fun W v => by kernel_rfl
  have ta124 : ∀ (W : World) (v : Value), (Instr.typeAssert (.iface 3 v) 20 124 true).run Tryz.prog W = .ok (.tuple #[.pointer none, .bool false]) W := fun W v => by kernel_rfl
  have ta134 : ∀ (W : World) (v : Value), (Instr.typeAssert (.iface 3 v) 20 134 true).run Tryz.prog W = .ok (.tuple #[.pointer none, .bool false]) W := fun W v => by kernel_rfl
  have ta141 : ∀ (W : World) (v : Value), (Instr.typeAssert (.iface 3 v) 20 141 true).run Tryz.prog W = .ok (.tuple #[.pointer none, .bool false]) W := fun W v => by kernel_rfl
  have ta145 : ∀ (W : World) (v : Value), (Instr.typeAssert (.iface 3 v) 20 145 true).run Tryz.prog W = .ok (.tuple #[.pointer none, .bool false]) W := fun W v => by kernel_rfl
  have ta147 : ∀ (W : World) (v : Value), (Instr.typeAssert (.iface 3 v) 20 147 true).run Tryz.prog W = .ok (.tuple #[.pointer none, .bool false]) W := fun W v => by kernel_rfl
  have ta152 : ∀ (W : World) (v : Value), (Instr.typeAssert (.iface 3 v) 20 152 true).run Tryz.prog W = .ok (.tuple #[.pointer none, .bool false]) W := fun W v => by kernel_rfl
  have ta156 : ∀ (W : World) (v : Value), (Instr.typeAssert (.iface 3 v) 20 156 true).run Tryz.prog W = .ok (.tuple #[.pointer none, .bool false]) W := fun W v => by kernel_rfl
  have ta158 : ∀ (W : World) (v : Value), (Instr.typeAssert (.iface 3 v) 20 158 true).run Tryz.prog W = .ok (.tuple #[.pointer none, .bool false]) W := fun W v => by kernel_rfl
  have ta161 : ∀ (W : World) (v : Value), (Instr.typeAssert (.iface 3 v) 20 161 true).run Tryz.prog W = .ok (.tuple #[.pointer none, .bool false]) W := fun W v => by kernel_rfl
  go_enter Tryz.func26, Tryz.ntmps26
  go_wp2_with fail
  go_ret
  exact ⟨rfl, rfl⟩
set_option maxHeartbeats 4000000 in
set_option maxRecDepth 100000 in
theorem zzMember_25 (v : Value) (name : ByteArray) (w : World) : Calls Tryz.prog 26 #[.iface 25 v, .string name] w fun e w' => e = .returned .nilIface ∧ w' = w := by
  have ta91 : ∀ (W : World) (v : Value), (Instr.typeAssert (.iface 25 v) 20 91 true).run Tryz.prog W = .ok (.tuple #[.pointer none, .bool false]) W := fun W v => by kernel_rfl
  have ta55 : ∀ (W : World) (v : Value), (Instr.typeAssert (.iface 25 v) 20 55 true).run Tryz.prog W = .ok (.tuple #[.pointer none, .bool false]) W := fun W v => by kernel_rfl
  have ta110 : ∀ (W : World) (v : Value), (Instr.typeAssert (.iface 25 v) 20 110 true).run Tryz.prog W = .ok (.tuple #[.pointer none, .bool false]) W := fun W v => by kernel_rfl
  have ta117 : ∀ (W : World) (v : Value), (Instr.typeAssert (.iface 25 v) 20 117 true).run Tryz.prog W = .ok (.tuple #[.pointer none, .bool false]) W := fun W v => by kernel_rfl
  have ta124 : ∀ (W : World) (v : Value), (Instr.typeAssert (.iface 25 v) 20 124 true).run Tryz.prog W = .ok (.tuple #[.pointer none, .bool false]) W := fun W v => by kernel_rfl
  have ta134 : ∀ (W : World) (v : Value), (Instr.typeAssert (.iface 25 v) 20 134 true).run Tryz.prog W = .ok (.tuple #[.pointer none, .bool false]) W := fun W v => by kernel_rfl
  have ta141 : ∀ (W : World) (v : Value), (Instr.typeAssert (.iface 25 v) 20 141 true).run Tryz.prog W = .ok (.tuple #[.pointer none, .bool false]) W := fun W v => by kernel_rfl
  have ta145 : ∀ (W : World) (v : Value), (Instr.typeAssert (.iface 25 v) 20 145 true).run Tryz.prog W = .ok (.tuple #[.pointer none, .bool false]) W := fun W v => by kernel_rfl
  have ta147 : ∀ (W : World) (v : Value), (Instr.typeAssert (.iface 25 v) 20 147 true).run Tryz.prog W = .ok (.tuple #[.pointer none, .bool false]) W := fun W v => by kernel_rfl
  have ta152 : ∀ (W : World) (v : Value), (Instr.typeAssert (.iface 25 v) 20 152 true).run Tryz.prog W = .ok (.tuple #[.pointer none, .bool false]) W := fun W v => by kernel_rfl
  have ta156 : ∀ (W : World) (v : Value), (Instr.typeAssert (.iface 25 v) 20 156 true).run Tryz.prog W = .ok (.tuple #[.pointer none, .bool false]) W := fun W v => by kernel_rfl
  have ta158 : ∀ (W : World) (v : Value), (Instr.typeAssert (.iface 25 v) 20 158 true).run Tryz.prog W = .ok (.tuple #[.pointer none, .bool false]) W := fun W v => by kernel_rfl
  have ta161 : ∀ (W : World) (v : Value), (Instr.typeAssert (.iface 25 v) 20 161 true).run Tryz.prog W = .ok (.tuple #[.pointer none, .bool false]) W := fun W v => by kernel_rfl
  go_enter Tryz.func26, Tryz.ntmps26
  go_wp2_with fail
  go_ret
  exact ⟨rfl, rfl⟩
set_option maxHeartbeats 4000000 in
set_option maxRecDepth 100000 in
theorem zzMember_9 (v : Value) (name : ByteArray) (w : World) : Calls Tryz.prog 26 #[.iface 9 v, .string name] w fun e w' => e = .returned .nilIface ∧ w' = w := by
  have ta91 : ∀ (W : World) (v : Value), (Instr.typeAssert (.iface 9 v) 20 91 true).run Tryz.prog W = .ok (.tuple #[.pointer none, .bool false]) W := fun W v => by kernel_rfl
  have ta55 : ∀ (W : World) (v : Value), (Instr.typeAssert (.iface 9 v) 20 55 true).run Tryz.prog W = .ok (.tuple #[.pointer none, .bool false]) W := fun W v => by kernel_rfl
  have ta110 : ∀ (W : World) (v : Value), (Instr.typeAssert (.iface 9 v) 20 110 true).run Tryz.prog W = .ok (.tuple #[.pointer none, .bool false]) W := fun W v => by kernel_rfl
  have ta117 : ∀ (W : World) (v : Value), (Instr.typeAssert (.iface 9 v) 20 117 true).run Tryz.prog W = .ok (.tuple #[.pointer none, .bool false]) W := fun W v => by kernel_rfl
  have ta124 : ∀ (W : World) (v : Value), (Instr.typeAssert (.iface 9 v) 20 124 true).run Tryz.prog W = .ok (.tuple #[.pointer none, .bool false]) W := fun W v => by kernel_rfl
  have ta134 : ∀ (W : World) (v : Value), (Instr.typeAssert (.iface 9 v) 20 134 true).run Tryz.prog W = .ok (.tuple #[.pointer none, .bool false]) W := fun W v => by kernel_rfl
  have ta141 : ∀ (W : World) (v : Value), (Instr.typeAssert (.iface 9 v) 20 141 true).run Tryz.prog W = .ok (.tuple #[.pointer none, .bool false]) W := fun W v => by kernel_rfl
  have ta145 : ∀ (W : World) (v : Value), (Instr.typeAssert (.iface 9 v) 20 145 true).run Tryz.prog W = .ok (.tuple #[.pointer none, .bool false]) W := fun W v => by kernel_rfl
  have ta147 : ∀ (W : World) (v : Value), (Instr.typeAssert (.iface 9 v) 20 147 true).run Tryz.prog W = .ok (.tuple #[.pointer none, .bool false]) W := fun W v => by kernel_rfl
  have ta152 : ∀ (W : World) (v : Value), (Instr.typeAssert (.iface 9 v) 20 152 true).run Tryz.prog W = .ok (.tuple #[.pointer none, .bool false]) W := fun W v => by kernel_rfl
  have ta156 : ∀ (W : World) (v : Value), (Instr.typeAssert (.iface 9 v) 20 156 true).run Tryz.prog W = .ok (.tuple #[.pointer none, .bool false]) W := fun W v => by kernel_rfl
  have ta158 : ∀ (W : World) (v : Value), (Instr.typeAssert (.iface 9 v) 20 158 true).run Tryz.prog W = .ok (.tuple #[.pointer none, .bool false]) W := fun W v => by kernel_rfl
  have ta161 : ∀ (W : World) (v : Value), (Instr.typeAssert (.iface 9 v) 20 161 true).run Tryz.prog W = .ok (.tuple #[.pointer none, .bool false]) W := fun W v => by kernel_rfl
  go_enter Tryz.func26, Tryz.ntmps26
  go_wp2_with fail
  go_ret
  exact ⟨rfl, rfl⟩
set_option maxHeartbeats 4000000 in
set_option maxRecDepth 100000 in
theorem zzMember_89 (v : Value) (name : ByteArray) (w : World) : Calls Tryz.prog 26 #[.iface 89 v, .string name] w fun e w' => e = .returned .nilIface ∧ w' = w := by
  have ta91 : ∀ (W : World) (v : Value), (Instr.typeAssert (.iface 89 v) 20 91 true).run Tryz.prog W = .ok (.tuple #[.pointer none, .bool false]) W := fun W v => by kernel_rfl
  have ta55 : ∀ (W : World) (v : Value), (Instr.typeAssert (.iface 89 v) 20 55 true).run Tryz.prog W = .ok (.tuple #[.pointer none, .bool false]) W := fun W v => by kernel_rfl
  have ta110 : ∀ (W : World) (v : Value), (Instr.typeAssert (.iface 89 v) 20 110 true).run Tryz.prog W = .ok (.tuple #[.pointer none, .bool false]) W := fun W v => by kernel_rfl
  have ta117 : ∀ (W : World) (v : Value), (Instr.typeAssert (.iface 89 v) 20 117 true).run Tryz.prog W = .ok (.tuple #[.pointer none, .bool false]) W := fun W v => by kernel_rfl
  have ta124 : ∀ (W : World) (v : Value), (Instr.typeAssert (.iface 89 v) 20 124 true).run Tryz.prog W = .ok (.tuple #[.pointer none, .bool false]) W := fun W v => by kernel_rfl
  have ta134 : ∀ (W : World) (v : Value), (Instr.typeAssert (.iface 89 v) 20 134 true).run Tryz.prog W = .ok (.tuple #[.pointer none, .bool false]) W := fun W v => by kernel_rfl
  have ta141 : ∀ (W : World) (v : Value), (Instr.typeAssert (.iface 89 v) 20 141 true).run Tryz.prog W = .ok (.tuple #[.pointer none, .bool false]) W := fun W v => by kernel_rfl
  have ta145 : ∀ (W : World) (v : Value), (Instr.typeAssert (.iface 89 v) 20 145 true).run Tryz.prog W = .ok (.tuple #[.pointer none, .bool false]) W := fun W v => by kernel_rfl
  have ta147 : ∀ (W : World) (v : Value), (Instr.typeAssert (.iface 89 v) 20 147 true).run Tryz.prog W = .ok (.tuple #[.pointer none, .bool false]) W := fun W v => by kernel_rfl
  have ta152 : ∀ (W : World) (v : Value), (Instr.typeAssert (.iface 89 v) 20 152 true).run Tryz.prog W = .ok (.tuple #[.pointer none, .bool false]) W := fun W v => by kernel_rfl
  have ta156 : ∀ (W : World) (v : Value), (Instr.typeAssert (.iface 89 v) 20 156 true).run Tryz.prog W = .ok (.tuple #[.pointer none, .bool false]) W := fun W v => by kernel_rfl
  have ta158 : ∀ (W : World) (v : Value), (Instr.typeAssert (.iface 89 v) 20 158 true).run Tryz.prog W = .ok (.tuple #[.pointer none, .bool false]) W := fun W v => by kernel_rfl
  have ta161 : ∀ (W : World) (v : Value), (Instr.typeAssert (.iface 89 v) 20 161 true).run Tryz.prog W = .ok (.tuple #[.pointer none, .bool false]) W := fun W v => by kernel_rfl
  go_enter Tryz.func26, Tryz.ntmps26
  go_wp2_with fail
  go_ret
  exact ⟨rfl, rfl⟩
end Go.Proofs.YtdcfbgpcpjjjaaaGreat.Co
