/-
  impl.putTyped at a list, walked.
-/
import Derived.Test.YtdcfbgpcpjjjaaaGreatGq
namespace Go.Proofs.YtdcfbgpcpjjjaaaGreat.Co
open Go.RowKit Go.Proofs.YtdcfbgpcpjjjaaaGreatW.PrintWords Go.Proofs.YtdcfbgpcpjjjaaaGreatW.PrintLast Go.Proofs.YtdcfbgpcpjjjaaaGreatW.PrintMore
open Go.Proofs.YtdcfbgpcpjjjaaaGreat.Fl Go.Proofs.YtdcfbgpcpjjjaaaGreat.Dr Go.Proofs.YtdcfbgpcpjjjaaaGreat.PFnFieldValueOf
open Go.Maps (Keyed)
set_option linter.unusedVariables false
set_option linter.unusedSimpArgs false
attribute [local go_sem] run_store_float
theorem own_cell {W : World} {e n : Nat} {v : Value} {inner : List Value} (h : W.ownsRow 0 e 1 v n inner) (i : Nat) (hi : i < n) : ∃ (g c : Nat) (u : Value), v = .slice (some ⟨g, 0, none⟩) n c ∧ inner[i]? = some u ∧ W.cell? ⟨g, i, none⟩ = some u := by
  have hl := h.1
  rcases h.2 with ⟨rfl, hn⟩ | ⟨g, cap, cur, rfl, hg, hh, hnc, hcm, hcs, ht⟩
  · omega
  have hil : i < inner.length := by omega
  refine ⟨g, cap, inner[i], rfl, List.getElem?_eq_getElem hil, ?_⟩
  rw [blk_cell hh i]
  have : (cur.toList.take (n * 1))[i]? = inner[i]? := by rw [ht]
  rw [List.getElem?_take, if_pos (by omega)] at this
  rw [← Array.getElem?_toList, this, List.getElem?_eq_getElem hil]
/-- The loop over the elements of a list. -/
def PRel (base : Nat) (w : World) (l : Value) (Ls : List V4) (ks : List Tr) (v0 v73 : Value) (wr : World) : Prop :=
  ∃ (i : Nat) (ks' : List Tr), i ≤ ks.length ∧ v73 = .int .i64 i ∧ ks'.length = i ∧ (∀ (j : Nat) (t t' : Tr), ks[j]? = some t → ks'[j]? = some t' → Canon t t') ∧ Out base w l wr v0 (Ls ++ ⟨7, 0, ⟨#[]⟩, 0⟩ :: nodesL ks')
theorem list_nodes (ks : List Tr) (k : Int) : nodes (.mk k 0 ⟨#[]⟩ ks) = ⟨k, 0, ⟨#[]⟩, 1 + (nodesL ks).length⟩ :: nodesL ks := by simp [nodes]
set_option maxHeartbeats 4000000 in
set_option maxRecDepth 100000 in
theorem puts_list (n : Nat) (ks : List Tr) (IH : ∀ s, s ∈ ks → PutsAt s) : PutsAt (.mk 7 n ⟨#[]⟩ ks) := by
  intro V Ls base l w hR hb hV hl
  have HR := Aside0.mk hR
  obtain ⟨A, cl, rfl⟩ := Kd.R_slice hR
  have hlen : (Ls.length + 1) * 40 ≤ 140737488355328 := by have := nodes_pos (.mk 7 n ⟨#[]⟩ ks); omega
  have hl2 : Ls.length + (1 + (nodesL ks).length) ≤ 1000 := by simp [nodes] at hl; omega
  cases hV with
  | list _ _ sv Vs hrow hS hk =>
  obtain ⟨As, cs, rfl⟩ : ∃ As cs, sv = .slice As ks.length cs := own_slice hrow
  have ta4 : ∀ (W : World) (v : Value), (Instr.typeAssert (.iface 89 v) 20 4 true).run Tryz.prog W = .ok (.tuple #[.bool false, .bool false]) W := fun W v => by kernel_rfl
  have ta3 : ∀ (W : World) (v : Value), (Instr.typeAssert (.iface 89 v) 20 3 true).run Tryz.prog W = .ok (.tuple #[.int .i64 0, .bool false]) W := fun W v => by kernel_rfl
  have ta25 : ∀ (W : World) (v : Value), (Instr.typeAssert (.iface 89 v) 20 25 true).run Tryz.prog W = .ok (.tuple #[.float .f64 0, .bool false]) W := fun W v => by kernel_rfl
  have ta9 : ∀ (W : World) (v : Value), (Instr.typeAssert (.iface 89 v) 20 9 true).run Tryz.prog W = .ok (.tuple #[.string ⟨#[]⟩, .bool false]) W := fun W v => by kernel_rfl
  have ta89 : ∀ (W : World) (v : Value), (Instr.typeAssert (.iface 89 v) 20 89 true).run Tryz.prog W = .ok (.tuple #[v, .bool true]) W := fun W v => by kernel_rfl
  have HRO := Aside0.mk hrow
  have HS := Aside0.mk hS
  have HK := Aside0.mk hk
  have HIH := Aside0.mk IH
  have hks : ks.length ≤ 1000 := by have := nodesL_ge ks ks.length (Nat.le_refl _); rw [List.take_length] at this; omega
  clear hR hl hrow hS hk IH
  go_enter Tryz.func27, Tryz.ntmps27
  go_wp2_with (at_builtin; refine Kd.R_append k27 (w0 := w) base rfl (.tmp 67) (.tmp 69) 22 27 (.agg #[.int .i64 0, .float .f64 0, .string ⟨#[]⟩, .int .i64 0]) 40 rfl Tryz.underlying22 info27 rfl (by decide) (by decide) (.slice A Ls.length cl) Ls ⟨7, 0, ⟨#[]⟩, 0⟩ (cs4 ⟨7, 0, ⟨#[]⟩, 0⟩) (fun _ => True) (fun _ => False) rfl rfl (k27_mkM _ _ _ _) (fun _ hk => hk.elim) (fun _ _ => trivial) HR.out (Below.refl _ _) hb hlen ?_; intro v6 w6 hR6 hB6 hg6 hat6; have HO := Aside0.mk (Out.mk hR6 hg6 hat6); clear hR6 hB6 hg6 hat6)
  go_loopw [0, 73] (fun v0 v73 wr => PRel base w (.slice A Ls.length cl) Ls ks v0 v73 wr) (fun _ v73 _ => ks.length - (intOf v73).toNat)
  case atStart => exact ⟨0, [], Nat.zero_le _, by go_num, rfl, fun j t t' _ h => by simp at h, by simp only [nodesL]; exact HO.out⟩
  case round =>
    obtain ⟨i, ks', hi, rfl, hl', hcan, hout⟩ := hrel
    have HCA := Aside0.mk hcan
    have HOU := Aside0.mk hout
    clear hcan hout
    by_cases hlt : i < ks.length
    · have hki : (i : Int) < (ks.length : Int) := by omega
      have hrow' : wr.ownsRow 0 20 1 (.slice As ks.length cs) ks.length Vs := own_frame HRO.out fun k hk => HOU.out.grw.block k (HS.out k hk).1 (HS.out k hk).2
      obtain ⟨g, c', u, he, hu, hcu⟩ := own_cell hrow' i hlt
      obtain ⟨rfl, rfl⟩ : As = some ⟨g, 0, none⟩ ∧ cs = c' := by injection he with h1 h2 h3; exact ⟨h1, h3⟩
      have hks0 : ks[i]? = some ks[i] := List.getElem?_eq_getElem hlt
      have HX := Aside0.mk (HIH.out ks[i] (List.getElem_mem hlt) u (Ls ++ ⟨7, 0, ⟨#[]⟩, 0⟩ :: nodesL ks') base u0 wr HOU.out.row (HOU.out.base_le hb) (HOU.out.free (HK.out i u ks[i] hu hks0)) (by
        have e1 := nodesL_len (ks := ks.take i) (ks' := ks') (by rw [hl', List.length_take]; omega) (fun j t t' h1 h2 => canon_len (HCA.out j t t' (by rw [List.getElem?_take] at h1; split at h1 <;> first | exact h1 | cases h1) h2))
        have e2 := nodesL_take ks i hlt
        have e3 := congrArg List.length e2
        simp only [List.length_append, List.length_cons] at e3 ⊢
        omega))
      have HKS := Aside0.mk hks0
      clear hrow' he hu hks0
      have hw1 : IntKind.i64.wrap ((i : Int) + 1) = ((i + 1 : Nat) : Int) := by rw [i64_w, w64 (by omega) (by omega)]; omega
      go_wp2_with fail
      refine HX.out.mono ?_
      rintro e w2 ⟨l2, t2, rfl, hc2, ho2⟩
      have HN : Aside0 (PRel base w (.slice A Ls.length cl) Ls ks l2 (.int .i64 ((i + 1 : Nat) : Int)) w2) := ⟨⟨i + 1, ks' ++ [t2], hlt, rfl, by rw [List.length_append, hl']; rfl, fun j t t' h1 h2 => by
        by_cases hj : j < i
        · rw [List.getElem?_append_left (by omega)] at h2
          exact HCA.out j t t' h1 h2
        · have hj2 : j = i := by
            have := (List.getElem?_eq_some_iff.1 h2).1
            simp at this
            omega
          subst hj2
          rw [List.getElem?_append_right (by omega), hl', Nat.sub_self] at h2
          simp at h2
          subst h2
          rw [HKS.out] at h1
          injection h1 with h1
          subst h1
          exact hc2, by
        have := HOU.out.trans ho2
        rw [nodesL_append]
        simp only [nodesL, List.append_nil]
        rw [List.append_assoc, List.cons_append] at this
        exact this⟩⟩
      clear hc2 ho2
      go_wp2_with fail
      go_roundw
      case rel => exact HN.out
      case measure => simp [intOf]; omega
    · obtain rfl : i = ks.length := by omega
      have hki : ¬ ((ks.length : Int) < (ks.length : Int)) := by omega
      have hLl : (nodesL ks').length = (nodesL ks).length := nodesL_len hl' fun j t t' h1 h2 => canon_len (HCA.out j t t' h1 h2)
      have HCL := Aside0.mk (closed_any base u0 (Ls ++ ⟨7, 0, ⟨#[]⟩, 0⟩ :: nodesL ks') Ls.length ⟨7, 0, ⟨#[]⟩, 0⟩ wr HOU.out.row (by rw [List.getElem?_append_right (Nat.le_refl _), Nat.sub_self]; rfl) (by simp only [List.length_append, List.length_cons]; omega))
      go_wp2_with fail
      refine HCL.out.mono ?_
      rintro e w2 ⟨rfl, ho⟩
      have HO2 : Aside0 (Out base w (.slice A Ls.length cl) w2 u0 (Ls ++ nodes (.mk 7 0 ⟨#[]⟩ ks'))) := ⟨by
        have := HOU.out.trans ho
        rw [List.set_append_right _ _ (Nat.le_refl _), Nat.sub_self, List.set_cons_zero] at this
        rw [list_nodes]
        have e : ((Ls ++ ⟨7, 0, ⟨#[]⟩, 0⟩ :: nodesL ks').length : Int) - (Ls.length : Int) = 1 + ((nodesL ks').length : Int) := by
          simp only [List.length_append, List.length_cons]; omega
        rw [e] at this
        exact this⟩
      have HCN := Aside0.mk (Canon.list n ks ks' hl' HCA.out)
      clear ho
      go_wp2_with fail
      go_ret
      exact ⟨_, _, rfl, HCN.out, HO2.out⟩
end Go.Proofs.YtdcfbgpcpjjjaaaGreat.Co
