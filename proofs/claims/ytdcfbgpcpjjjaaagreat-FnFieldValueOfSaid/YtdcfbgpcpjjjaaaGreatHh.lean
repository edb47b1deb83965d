/-
  The law FnFieldValueOf, walked: it is true of all data.
-/
import Derived.Test.YtdcfbgpcpjjjaaaGreatHg
import Derived.Test.YtdcfbgpcpjjjaaaGreatCi
namespace Go.Proofs.YtdcfbgpcpjjjaaaGreat.Co
open Go.RowKit Go.Proofs.YtdcfbgpcpjjjaaaGreatW.PrintWords Go.Proofs.YtdcfbgpcpjjjaaaGreatW.PrintLast Go.Proofs.YtdcfbgpcpjjjaaaGreatW.PrintMore
open Go.Proofs.YtdcfbgpcpjjjaaaGreat.Fl Go.Proofs.YtdcfbgpcpjjjaaaGreat.Dr Go.Proofs.YtdcfbgpcpjjjaaaGreat.PFnFieldValueOf
set_option linter.unusedVariables false
set_option linter.unusedSimpArgs false
attribute [local go_sem] run_store_float
mutual
theorem nodes_app : ∀ (t t' : Tr) (r r' : List V4), nodes t ++ r = nodes t' ++ r' → t = t' ∧ r = r'
  | .mk k n x ks, .mk k' n' x' ks', r, r', h => by
    simp only [nodes, List.cons_append, List.cons.injEq, V4.mk.injEq] at h
    obtain ⟨⟨rfl, rfl, rfl, hl⟩, h⟩ := h
    obtain ⟨h1, h2⟩ := List.append_inj h (by omega)
    exact ⟨by rw [nodesL_inj ks ks' h1], h2⟩
theorem nodesL_inj : ∀ (a b : List Tr), nodesL a = nodesL b → a = b
  | [], [], _ => rfl
  | [], t :: _, h => by
    have h1 := congrArg List.length h
    have h2 := nodes_pos t
    simp only [nodesL, List.length_append, List.length_nil] at h1
    omega
  | t :: _, [], h => by
    have h1 := congrArg List.length h
    have h2 := nodes_pos t
    simp only [nodesL, List.length_append, List.length_nil] at h1
    omega
  | t :: a, t' :: b, h => by
    simp only [nodesL] at h
    obtain ⟨h1, h2⟩ := nodes_app t t' _ _ h
    rw [h1, nodesL_inj a b h2]
end
theorem nodes_inj {t t' : Tr} (h : nodes t = nodes t') : t = t' := (nodes_app t t' [] [] (by rw [List.append_nil, List.append_nil]; exact h)).1
theorem kind10 {t : Tr} (h : TR true t) (hk : t.kind = 10) : ∃ n, t = .mk 10 n ⟨#[]⟩ [] := by
  cases h with
  | err n hn he => exact ⟨n, rfl⟩
  | _ => exact absurd hk (by simp [Tr.kind])
theorem kind8 {t : Tr} (h : TR true t) (hk : t.kind = 8) : ∃ (n : Nat) (ms : List Mb), t = .mk 8 n ⟨#[]⟩ (ms.map Mb.tree) := by
  cases h with
  | obj n ms hn hz hd hkk => exact ⟨n, ms, rfl⟩
  | _ => exact absurd hk (by simp [Tr.kind])
theorem mem_nodesL {t : Tr} {ks : List Tr} (h : t ∈ ks) {x : V4} (hx : x ∈ nodes t) : x ∈ nodesL ks := by
  induction ks with
  | nil => simp at h
  | cons a r ih =>
    simp only [nodesL, List.mem_append]
    rcases List.mem_cons.1 h with rfl | h
    · exact .inl hx
    · exact .inr (ih h)
theorem MemberT.wf {t t2 : Tr} {field : ByteArray} (h : MemberT t field t2) (hw : ∀ x, x ∈ nodes t → x.wf) : ∀ x, x ∈ nodes t2 → x.wf := by
  have hn : ∀ x, x ∈ nodes nullT → x.wf := fun x hx => by
    simp only [nodes, nodesL, List.mem_singleton] at hx
    subst hx
    exact ⟨by decide, by decide, by decide, by decide⟩
  cases h with
  | there n ms m hm =>
    intro x hx
    refine hw x ?_
    simp only [nodes, List.mem_cons]
    refine .inr (mem_nodesL (List.mem_map_of_mem hm) ?_)
    simp only [Mb.tree, nodes, nodesL, List.append_nil, List.mem_cons]
    exact .inr hx
  | absent n ms field h => exact hn
  | other t field h => exact hn
theorem MemberT.len {t t2 : Tr} {field : ByteArray} {v : List V4} (h : MemberT t field t2) (hv : nodes t = v) : (nodes t2).length ≤ v.length := by
  have hp := nodes_pos t
  have hn : (nodes nullT).length = 1 := by simp [nodes, nodesL]
  rw [hv] at hp
  cases h with
  | there n ms m hm =>
    obtain ⟨i, hi, rfl⟩ := List.getElem_of_mem hm
    have h1 := nodesL_succ (ms.map Mb.tree) i (by simpa using hi)
    have h2 := congrArg (fun l => (nodesL l).length) (List.take_append_drop (i + 1) (ms.map Mb.tree))
    simp only [nodesL_append, List.length_append] at h2
    rw [List.getElem_map] at h1
    have h3 : (nodes (ms[i]).tree).length = 1 + (nodes (ms[i]).val).length := by simp [Mb.tree, nodes, nodesL]; omega
    rw [← hv]
    simp only [nodes, List.length_cons]
    omega
  | absent n ms field h => omega
  | other t field h => omega
theorem member8_any (t : Tr) (ht : TR true t) (v : List V4) (hv : nodes t = v) (field : ByteArray) (A : Option Addr) (c : Nat) (w : World) (hC : Kd.C k27 w A v.length v) (hc : v.length ≤ c) (h300 : v.length ≤ 1000) :
    Calls Tryz.prog 8 #[.slice A v.length c, .string field] w fun e w' => MoPost t field v w e w' := by
  by_cases h8 : t.kind = 8
  · obtain ⟨n, ms, rfl⟩ := kind8 ht h8
    exact member8_obj n ms v hv field A c w hC hc h300
  · refine (member8_no t v hv h8 field A c w hC hc).mono ?_
    rintro e w1 ⟨rfl, hb⟩
    exact ⟨_, _, rfl, .inr ⟨rfl, rfl, .other t field h8⟩, hb⟩
theorem _root_.Go.RowKit.Below.at_cell {w W : World} {ad : Addr} {u : Value} (hb : Below w.heap.size w W) (h : w.cell? ad = some u) : W.cell? ad = some u := (cell_same (hb.block ad.block (World.block_lt_of_cell? w ad h))).trans h
set_option maxHeartbeats 40000000 in
set_option maxRecDepth 100000 in
theorem lawField_any (field : ByteArray) (v : List V4) (A : Option Addr) (c : Nat) (w : World) (hC : Kd.C k27 w A v.length v) (hc : v.length ≤ c) (hw : ∀ x, x ∈ v → x.wf) :
    Calls Tryz.prog 3 #[.string field, .slice A v.length c] w fun e w' => e = .returned (.bool true) ∧ Below w.heap.size w w' := by
  have HC := Aside0.mk hC
  have HW := Aside0.mk hw
  clear hC hw
  by_cases hbig : 2147483647 < field.size
  · have z1 : decide (2147483647 < (field.size : Int)) = true := decide_eq_true (by omega)
    go_enter Tryz.func3, Tryz.ntmps3
    go_wp2_with fail
    go_ret
    exact ⟨rfl, Below.refl _ _⟩
  have z1 : decide (2147483647 < (field.size : Int)) = false := decide_eq_false (by omega)
  go_enter Tryz.func3, Tryz.ntmps3
  go_wp2_with fail
  refine (fits4_any v A c w HC.out hc).mono ?_
  rintro e w1 ⟨⟨b, rfl⟩, hb⟩
  have HB1 := Aside0.mk hb
  clear hb
  cases b with
  | false =>
    go_wp2_with fail
    go_ret
    exact ⟨rfl, HB1.out⟩
  | true =>
  go_wp2_with fail
  refine (dataRight_any v A c true w1 (Kd.C_below HC.out HB1.out) hc HW.out).mono ?_
  rintro e w2 ⟨⟨b, rfl, hs⟩, hb⟩
  have HB2 := Aside0.mk (below_step HB1.out hb)
  clear hb
  cases b with
  | false =>
    clear hs
    go_wp2_with fail
    go_ret
    exact ⟨rfl, HB2.out⟩
  | true =>
  obtain ⟨h0, h300, t, hv, ht⟩ := hs rfl
  have HT := Aside0.mk ht
  have HV := Aside0.mk hv
  obtain ⟨k, n, tx, ks⟩ := t
  have hvd : v.drop 0 = ⟨k, n, tx, 1 + (nodesL ks).length⟩ :: nodesL ks := by rw [List.drop_zero, ← hv]; simp [nodes]
  obtain ⟨ad, rfl, ⟨p0, -, -, -, -⟩, -⟩ := atN (Kd.C_below HC.out HB2.out) hvd
  rw [Nat.zero_mul, Addr.add_zero'] at p0
  dsimp only at p0
  clear hs hvd ht hv
  by_cases h10 : k = 10
  · subst h10
    go_wp2_with fail
    go_ret
    exact ⟨rfl, HB2.out⟩
  have h10' : (k == 10) = false := beq_eq_false_iff_ne.2 h10
  by_cases h1 : k = 1
  · subst h1
    go_wp2_with fail
    go_ret
    exact ⟨rfl, HB2.out⟩
  have h1' : (k == 1) = false := beq_eq_false_iff_ne.2 h1
  by_cases hf100 : 100 < field.size
  · have z2 : decide (100 < (field.size : Int)) = true := decide_eq_true (by omega)
    go_wp2_with fail
    go_ret
    exact ⟨rfl, HB2.out⟩
  have z2 : decide (100 < (field.size : Int)) = false := decide_eq_false (by omega)
  replace hf100 : field.size ≤ 100 := by omega
  go_wp2_with fail
  refine (utf8_any field (by omega) w2).mono ?_
  rintro e w3 ⟨rfl, hd⟩
  have HB3 := Aside0.mk (below_step HB2.out hd.below)
  clear hd p0
  cases hu : utf field with
  | false =>
    go_wp2_with fail
    go_ret
    exact ⟨rfl, HB3.out⟩
  | true =>
  replace h10 : (Tr.mk k n tx ks).kind ≠ 10 := h10
  replace h1 : (Tr.mk k n tx ks).kind ≠ 1 := h1
  generalize Tr.mk k n tx ks = t at *
  go_wp2_with fail
  refine (one7_any w3).mono ?_
  rintro e w4 ⟨rn, rfl, hrn, hb⟩
  have HRN := Aside0.mk hrn
  have HB4 := Aside0.mk (below_step HB3.out hb)
  clear hb hrn
  go_wp2_with fail
  refine (member8_any t HT.out v HV.out field (some ad) c w4 (Kd.C_below HC.out HB4.out) hc (by omega)).mono ?_
  rintro e wm ⟨r, b, rfl, hor, hb⟩
  have HBW := Aside0.mk (below_step HB4.out hb)
  rcases hor with ⟨rfl, t2, hmt, hle, hil⟩ | ⟨rfl, rfl, hmt⟩
  · have HMT := Aside0.mk hmt
    have HTR2 := Aside0.mk (hmt.right HT.out)
    have HWF2 := Aside0.mk (hmt.wf (fun x hx => HW.out x (by rw [← HV.out]; exact hx)))
    have HWANT := Aside0.mk hil
    have HLE2 : Aside0 ((nodes t2).length ≤ v.length) := ⟨hle⟩
    clear hmt hil hle hb
    obtain ⟨A, hA⟩ : ∃ A, A = some ad := ⟨_, rfl⟩
    rw [← hA] at HC ⊢
    clear hA
    obtain ⟨adw, cw, rfl, hcw, -, pw, -, -, -⟩ := HWANT.out.sliceN.head
    have HCW : Aside0 (Kd.C k27 wm (some adw) (nodes t2).length (nodes t2)) := ⟨by
      obtain ⟨A', c', e', -, h⟩ := HWANT.out
      obtain ⟨rfl, rfl⟩ : some adw = A' ∧ cw = c' := by injection e' with h1 h2 h3; exact ⟨h1, h3⟩
      exact h⟩
    obtain ⟨nw, hnw⟩ : ∃ nw, nw = (nodes t2).length := ⟨_, rfl⟩
    have HNW := Aside0.mk hnw
    have hnw0 : 0 < nw := by rw [hnw]; exact nodes_pos t2
    rw [← hnw] at hcw ⊢
    clear hnw
    by_cases hk10 : t2.kind = 10
    · obtain ⟨n2, rfl⟩ : ∃ n2, t2 = .mk 10 n2 ⟨#[]⟩ [] := kind10 HTR2.out hk10
      change wm.cell? adw = some (.int .i64 10) at pw
      have HPW := Aside0.mk (fun W (hb : Below wm.heap.size wm W) => (hb.at_cell pw : W.cell? adw = some (.int .i64 10)))
      go_wp2_with fail
      refine (field_err t HT.out v HV.out h1 h10 field (Nat.le_trans hf100 (by unfold maxLen; omega)) n2 HMT.out A c wm (Kd.C_below HC.out HBW.out) hc h300).mono ?_
      rintro e w5 ⟨rfl, hb⟩
      have pw5 := HPW.out w5 hb
      have HB5 := Aside0.mk (below_step HBW.out hb)
      clear hb pw
      go_wp2_with fail
      go_ret
      exact ⟨rfl, HB5.out⟩
    · have hk10' : (t2.kind == 10) = false := beq_eq_false_iff_ne.2 hk10
      have HPW := Aside0.mk (fun W (hb : Below wm.heap.size wm W) => (hb.at_cell pw : W.cell? adw = some (.int .i64 t2.kind)))
      generalize hkk : t2.kind = kw at *
      have HKK := Aside0.mk hkk
      have HDR := Aside0.mk (dataRight_any (nodes t2) (some adw) cw false wm HCW.out (by rw [← HNW.out]; exact hcw) HWF2.out)
      rw [← HNW.out] at HDR
      clear hkk
      go_wp2_with fail
      refine HDR.out.mono ?_
      rintro e w5 ⟨⟨b, rfl, hs⟩, hb⟩
      have HS := Aside0.mk hs
      have HB5 := Aside0.mk (below_step HBW.out hb)
      have HBB5 := Aside0.mk hb
      clear hb hs HDR
      cases b with
      | false =>
        go_wp2_with fail
        go_ret
        exact ⟨rfl, HB5.out⟩
      | true =>
      have HTF : Aside0 (TR false t2) := ⟨by
        obtain ⟨-, -, t3, h3, h4⟩ := HS.out rfl
        rwa [nodes_inj h3] at h4⟩
      have hl2 : (nodes t2).length ≤ 1000 := by have := HLE2.out; omega
      go_wp2_with fail
      refine (field_ok t HT.out v HV.out h1 h10 field (Nat.le_trans hf100 (by unfold maxLen; omega)) t2 HTF.out hl2 HMT.out A c w5 (Kd.C_below HC.out HB5.out) hc h300).mono ?_
      rintro e w6 ⟨l', t', rfl, hcan, hil, hb⟩
      have HCAN := Aside0.mk hcan
      have HIL := Aside0.mk hil
      have HBB6 := Aside0.mk (below_step HBB5.out hb)
      have HB6 := Aside0.mk (below_step HB5.out hb)
      have pw6 := HPW.out w6 HBB6.out
      clear hcan hil hb pw hl2
      go_wp2_with fail
      refine (same10_any t2 t' HCAN.out HTF.out (.slice (some adw) nw cw) l' w6 ⟨some adw, cw, by rw [HNW.out], by rw [← HNW.out]; exact hcw, Kd.C_below HCW.out HBB6.out⟩ HIL.out (by have := HLE2.out; omega)).mono ?_
      rintro e w7 ⟨rfl, hb⟩
      have HB7 := Aside0.mk (below_step HB6.out hb)
      clear hb
      go_wp2_with fail
      go_ret
      exact ⟨rfl, HB7.out⟩
  
  · have HWANT : Aside0 (IsL wm rn (nodes nullT)) := ⟨(HRN.out.sliceN.frame (S' := fun _ => True) fun k hk => ⟨trivial, hb.block k hk⟩).isL⟩
    generalize nullT = t2 at hmt HWANT
    have HMT := Aside0.mk hmt
    have HTR2 := Aside0.mk (hmt.right HT.out)
    have HWF2 := Aside0.mk (hmt.wf (fun x hx => HW.out x (by rw [← HV.out]; exact hx)))
    have HLE2 : Aside0 ((nodes t2).length ≤ v.length) := ⟨hmt.len (t := t) HV.out⟩
    clear hmt hb
    obtain ⟨A, hA⟩ : ∃ A, A = some ad := ⟨_, rfl⟩
    rw [← hA] at HC ⊢
    clear hA
    obtain ⟨adw, cw, rfl, hcw, -, pw, -, -, -⟩ := HWANT.out.sliceN.head
    have HCW : Aside0 (Kd.C k27 wm (some adw) (nodes t2).length (nodes t2)) := ⟨by
      obtain ⟨A', c', e', -, h⟩ := HWANT.out
      obtain ⟨rfl, rfl⟩ : some adw = A' ∧ cw = c' := by injection e' with h1 h2 h3; exact ⟨h1, h3⟩
      exact h⟩
    obtain ⟨nw, hnw⟩ : ∃ nw, nw = (nodes t2).length := ⟨_, rfl⟩
    have HNW := Aside0.mk hnw
    have hnw0 : 0 < nw := by rw [hnw]; exact nodes_pos t2
    rw [← hnw] at hcw ⊢
    clear hnw
    by_cases hk10 : t2.kind = 10
    · obtain ⟨n2, rfl⟩ : ∃ n2, t2 = .mk 10 n2 ⟨#[]⟩ [] := kind10 HTR2.out hk10
      change wm.cell? adw = some (.int .i64 10) at pw
      have HPW := Aside0.mk (fun W (hb : Below wm.heap.size wm W) => (hb.at_cell pw : W.cell? adw = some (.int .i64 10)))
      go_wp2_with fail
      refine (field_err t HT.out v HV.out h1 h10 field (Nat.le_trans hf100 (by unfold maxLen; omega)) n2 HMT.out A c wm (Kd.C_below HC.out HBW.out) hc h300).mono ?_
      rintro e w5 ⟨rfl, hb⟩
      have pw5 := HPW.out w5 hb
      have HB5 := Aside0.mk (below_step HBW.out hb)
      clear hb pw
      go_wp2_with fail
      go_ret
      exact ⟨rfl, HB5.out⟩
    · have hk10' : (t2.kind == 10) = false := beq_eq_false_iff_ne.2 hk10
      have HPW := Aside0.mk (fun W (hb : Below wm.heap.size wm W) => (hb.at_cell pw : W.cell? adw = some (.int .i64 t2.kind)))
      generalize hkk : t2.kind = kw at *
      have HKK := Aside0.mk hkk
      have HDR := Aside0.mk (dataRight_any (nodes t2) (some adw) cw false wm HCW.out (by rw [← HNW.out]; exact hcw) HWF2.out)
      rw [← HNW.out] at HDR
      clear hkk
      go_wp2_with fail
      refine HDR.out.mono ?_
      rintro e w5 ⟨⟨b, rfl, hs⟩, hb⟩
      have HS := Aside0.mk hs
      have HB5 := Aside0.mk (below_step HBW.out hb)
      have HBB5 := Aside0.mk hb
      clear hb hs HDR
      cases b with
      | false =>
        go_wp2_with fail
        go_ret
        exact ⟨rfl, HB5.out⟩
      | true =>
      have HTF : Aside0 (TR false t2) := ⟨by
        obtain ⟨-, -, t3, h3, h4⟩ := HS.out rfl
        rwa [nodes_inj h3] at h4⟩
      have hl2 : (nodes t2).length ≤ 1000 := by have := HLE2.out; omega
      go_wp2_with fail
      refine (field_ok t HT.out v HV.out h1 h10 field (Nat.le_trans hf100 (by unfold maxLen; omega)) t2 HTF.out hl2 HMT.out A c w5 (Kd.C_below HC.out HB5.out) hc h300).mono ?_
      rintro e w6 ⟨l', t', rfl, hcan, hil, hb⟩
      have HCAN := Aside0.mk hcan
      have HIL := Aside0.mk hil
      have HBB6 := Aside0.mk (below_step HBB5.out hb)
      have HB6 := Aside0.mk (below_step HB5.out hb)
      have pw6 := HPW.out w6 HBB6.out
      clear hcan hil hb pw hl2
      go_wp2_with fail
      refine (same10_any t2 t' HCAN.out HTF.out (.slice (some adw) nw cw) l' w6 ⟨some adw, cw, by rw [HNW.out], by rw [← HNW.out]; exact hcw, Kd.C_below HCW.out HBB6.out⟩ HIL.out (by have := HLE2.out; omega)).mono ?_
      rintro e w7 ⟨rfl, hb⟩
      have HB7 := Aside0.mk (below_step HB6.out hb)
      clear hb
      go_wp2_with fail
      go_ret
      exact ⟨rfl, HB7.out⟩
  
end Go.Proofs.YtdcfbgpcpjjjaaaGreat.Co
