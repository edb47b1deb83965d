/-
  The reference's dataRight and DataRight, walked: they say yes of trees alone.
-/
import Derived.Test.YtdcfbgpcpjjjaaaGreatCg
import Derived.Test.YtdcfbgpcpjjjaaaGreatCh
namespace Go.Proofs.YtdcfbgpcpjjjaaaGreat.Co
open Go.RowKit Go.Proofs.YtdcfbgpcpjjjaaaGreatW.PrintWords Go.Proofs.YtdcfbgpcpjjjaaaGreatW.PrintLast Go.Proofs.YtdcfbgpcpjjjaaaGreatW.PrintMore
open Go.Proofs.YtdcfbgpcpjjjaaaGreat.Fl Go.Proofs.YtdcfbgpcpjjjaaaGreat.Dr Go.Proofs.YtdcfbgpcpjjjaaaGreat.PFnFieldValueOf
set_option linter.unusedVariables false
set_option linter.unusedSimpArgs false
attribute [local go_sem] run_store_float
theorem AnsQ.leaf {errs : Bool} {v : List V4} {e : Ending} {b : Bool} (h0 : 0 < v.length) (he : e = .returned (.bool b)) (hh : headR v.length (rd27 v 0) = true) (hb : leafR utf errs v.length (rd27 v 0) = b) : AnsQ (IsTree errs v) e :=
  ⟨b, he, fun h => leaf_tree (U := utf) (x := rd27 v 0) (by cases v with | nil => simp at h0 | cons a r => rfl) hh (hb.trans h)⟩
theorem rd27_mem {v : List V4} (h0 : 0 < v.length) : rd27 v 0 ∈ v := by
  unfold rd27
  rw [show Int.toNat 0 = 0 from rfl, List.getD_eq_getElem?_getD, List.getElem?_eq_getElem h0]
  exact List.getElem_mem h0
set_option maxHeartbeats 4000000 in
theorem leaf7 (d : Nat) (v : List V4) (a1 : Addr) (c : Nat) (errs : Bool) (w : World) (xn : Nat) (xt : ByteArray) (h : At0 v w a1 (d + 1) ⟨7, xn, xt, v.length⟩) (hc : v.length ≤ c) (nz : (FloatKind.f64.format.order xn 0 != some Ordering.eq) = false) (te : xt.toList.isEmpty = true) (q : Prop)
    (IH : ∀ W, Below w.heap.size w W → Calls Tryz.prog 24 #[.slice (some a1) v.length c, .bool errs, .int .i64 (d : Int)] W fun e w' => AnsQ q e ∧ Below W.heap.size W w') :
    Calls Tryz.prog 12 #[.slice (some a1) v.length c, .bool errs, .int .i64 (d : Int)] w fun e w' => AnsQ q e ∧ Below w.heap.size w w' := by
  obtain ⟨p0, p1, p2, p3, hlt, d2⟩ := h
  have d3 : decide ((d : Int) < 0) = false := decide_eq_false (by omega)
  dsimp only at p0 p1 p2 p3
  have HIH := Aside0.mk IH
  clear IH d2
  go_enter Tryz.func12, Tryz.ntmps12
  go_wp2_with fail
  refine (HIH.out _ (below_one _ _)).mono ?_
  rintro e w1 ⟨⟨b, rfl, hq⟩, hb⟩
  have HB := Aside0.mk (below_step (below_one _ _) hb)
  have HQ := Aside0.mk hq
  clear hb hq
  go_wp2_with fail
  go_ret
  exact ⟨⟨b, rfl, HQ.out⟩, HB.out⟩
set_option maxHeartbeats 4000000 in
theorem leaf8 (d : Nat) (v : List V4) (a1 : Addr) (c : Nat) (errs : Bool) (w : World) (xn : Nat) (xt : ByteArray) (h : At0 v w a1 (d + 1) ⟨8, xn, xt, v.length⟩) (hc : v.length ≤ c) (nz : (FloatKind.f64.format.order xn 0 != some Ordering.eq) = false) (te : xt.toList.isEmpty = true) (q : Prop)
    (IH : ∀ W, Below w.heap.size w W → Calls Tryz.prog 24 #[.slice (some a1) v.length c, .bool errs, .int .i64 (d : Int)] W fun e w' => AnsQ q e ∧ Below W.heap.size W w') :
    Calls Tryz.prog 12 #[.slice (some a1) v.length c, .bool errs, .int .i64 (d : Int)] w fun e w' => AnsQ q e ∧ Below w.heap.size w w' := by
  obtain ⟨p0, p1, p2, p3, hlt, d2⟩ := h
  have d3 : decide ((d : Int) < 0) = false := decide_eq_false (by omega)
  dsimp only at p0 p1 p2 p3
  have HIH := Aside0.mk IH
  clear IH d2
  go_enter Tryz.func12, Tryz.ntmps12
  go_wp2_with fail
  refine (HIH.out _ (below_one _ _)).mono ?_
  rintro e w1 ⟨⟨b, rfl, hq⟩, hb⟩
  have HB := Aside0.mk (below_step (below_one _ _) hb)
  have HQ := Aside0.mk hq
  clear hb hq
  go_wp2_with fail
  go_ret
  exact ⟨⟨b, rfl, HQ.out⟩, HB.out⟩
/-- dataRight, one level. -/
theorem right_step (d : Nat) (hd : d ≤ 1000) (IH : Tells16 d) (v : List V4) (A : Option Addr) (c : Nat) (errs : Bool) (w : World) (hC : Kd.C k27 w A v.length v) (h0 : 0 < v.length) (h300 : v.length ≤ 300) (hc : v.length ≤ c) (hw : ∀ x, x ∈ v → x.wf) :
    Calls Tryz.prog 12 #[.slice A v.length c, .bool errs, .int .i64 (d : Int)] w fun e w' => AnsQ (IsTree errs v) e ∧ Below w.heap.size w w' := by
  have ed : (((d + 1 : Nat) : Int) - 1) = (d : Int) := by omega
  cases hh : headR v.length (rd27 v 0) with
  | false =>
    have := head_fail v A c errs (d + 1) w hC h0 hc (.inr hh)
    rw [ed] at this
    refine this.mono ?_
    rintro e w1 ⟨rfl, hb⟩
    exact ⟨AnsQ.no _, hb⟩
  | true =>
    have hx0 := hw _ (rd27_mem h0)
    have hP := parts_any d hd IH v (rd27 v 0) rfl A c errs
    obtain ⟨a1, rfl, p0, p1, p2, p3⟩ := at0_27 hC h0
    have hlt : (0 : Int) < (v.length : Int) := by omega
    have hk : ∀ {e : Ending} {b : Bool}, e = .returned (.bool b) → leafR utf errs v.length (rd27 v 0) = b → AnsQ (IsTree errs v) e := fun he hb => AnsQ.leaf h0 he hh hb
    have hk78 : ∀ {e : Ending}, ((rd27 v 0).kind = 7 ∨ (rd27 v 0).kind = 8) → numZero (rd27 v 0).num = true → (rd27 v 0).text.toList.isEmpty = true → (rd27 v 0).size = v.length → AnsQ (∃ names, Done errs (rd27 v 0) v names) e → AnsQ (IsTree errs v) e := by
      rintro e h78 hz ht hs ⟨b, rfl, hq⟩
      exact ⟨b, rfl, fun h => by obtain ⟨names, hd⟩ := hq h; exact hd.whole hs h78 hz ht⟩
    obtain ⟨x, hx⟩ : ∃ x, x = rd27 v 0 := ⟨_, rfl⟩
    rw [← hx] at p0 p1 p2 p3 hh hx0 hk hk78 hP
    obtain ⟨xk, xn, xt, xs⟩ := x
    unfold headR at hh
    rw [Bool.and_eq_true, Bool.and_eq_true] at hh
    obtain ⟨⟨e1, e2⟩, e3⟩ := hh
    have e1 : xs = (v.length : Int) := of_decide_eq_true e1
    subst e1
    dsimp only at p0 p1 p2 p3 e2 e3
    have hA : At0 v w a1 (d + 1) ⟨xk, xn, xt, v.length⟩ := ⟨p0, p1, p2, p3, hlt, decide_eq_false (by omega)⟩
    have hzz : xk ≠ 4 → xk ≠ 5 → numZero xn = true := fun h4 h5 => by
      rw [decide_eq_false h4, decide_eq_false h5, Bool.false_or, Bool.false_or] at e2; exact e2
    have hnz : xk ≠ 4 → xk ≠ 5 → (FloatKind.f64.format.order xn 0 != some Ordering.eq) = false := fun h4 h5 => nz_true (by
      rw [decide_eq_false h4, decide_eq_false h5, Bool.false_or, Bool.false_or] at e2; exact e2)
    have hte : xk ≠ 6 → xk ≠ 9 → xt.toList.isEmpty = true := fun h6 h9 => by
      rw [decide_eq_false h6, decide_eq_false h9, Bool.false_or, Bool.false_or] at e3; exact e3
    have hn : xn < 2 ^ 64 := hx0.2.1
    by_cases k1 : xk = 1
    · subst k1
      have := leaf1 v a1 c errs (d + 1) w xn xt hA hc (hnz (by decide) (by decide)) (hte (by decide) (by decide))
      rw [ed] at this
      refine this.mono ?_
      rintro e w1 ⟨rfl, hb⟩
      exact ⟨hk rfl (by simp [leafR]), hb⟩
    by_cases k2 : xk = 2
    · subst k2
      have := leaf2 v a1 c errs (d + 1) w xn xt hA hc (hnz (by decide) (by decide)) (hte (by decide) (by decide))
      rw [ed] at this
      refine this.mono ?_
      rintro e w1 ⟨rfl, hb⟩
      exact ⟨hk rfl (by simp [leafR]), hb⟩
    by_cases k3 : xk = 3
    · subst k3
      have := leaf3 v a1 c errs (d + 1) w xn xt hA hc (hnz (by decide) (by decide)) (hte (by decide) (by decide))
      rw [ed] at this
      refine this.mono ?_
      rintro e w1 ⟨rfl, hb⟩
      exact ⟨hk rfl (by simp [leafR]), hb⟩
    by_cases k4 : xk = 4
    · subst k4
      have := leaf4 v a1 c errs (d + 1) w xn xt hA hc hn (hte (by decide) (by decide))
      rw [ed] at this
      refine this.mono ?_
      rintro e w1 ⟨rfl, hb⟩
      exact ⟨hk rfl (by simp [leafR]), hb⟩
    by_cases k5 : xk = 5
    · subst k5
      have := leaf5 v a1 c errs (d + 1) w xn xt hA hc hn (hte (by decide) (by decide))
      rw [ed] at this
      refine this.mono ?_
      rintro e w1 ⟨rfl, hb⟩
      exact ⟨hk rfl (by simp [leafR]), hb⟩
    by_cases k6 : xk = 6
    · subst k6
      have := leaf6 v a1 c errs (d + 1) w xn xt hA hc (hnz (by decide) (by decide))
      rw [ed] at this
      refine this.mono ?_
      rintro e w1 ⟨rfl, hb⟩
      exact ⟨hk rfl (by simp [leafR]), hb⟩
    by_cases k7 : xk = 7
    · subst k7
      have := leaf7 d v a1 c errs w xn xt hA hc (hnz (by decide) (by decide)) (hte (by decide) (by decide)) _ (fun W hb => hP W (Kd.C_below hC hb) h0 h300 hc hw)
      refine this.mono ?_
      rintro e w1 ⟨ha, hb⟩
      exact ⟨hk78 (.inl rfl) (hzz (by decide) (by decide)) (hte (by decide) (by decide)) rfl ha, hb⟩
    by_cases k8 : xk = 8
    · subst k8
      have := leaf8 d v a1 c errs w xn xt hA hc (hnz (by decide) (by decide)) (hte (by decide) (by decide)) _ (fun W hb => hP W (Kd.C_below hC hb) h0 h300 hc hw)
      refine this.mono ?_
      rintro e w1 ⟨ha, hb⟩
      exact ⟨hk78 (.inr rfl) (hzz (by decide) (by decide)) (hte (by decide) (by decide)) rfl ha, hb⟩
    by_cases k9 : xk = 9
    · subst k9
      have := leaf9 v a1 c errs (d + 1) w xn xt hA hc (hnz (by decide) (by decide))
      rw [ed] at this
      refine this.mono ?_
      rintro e w1 ⟨rfl, hb⟩
      exact ⟨hk rfl (by simp [leafR]), hb⟩
    by_cases k10 : xk = 10
    · subst k10
      have := leaf10 v a1 c errs (d + 1) w xn xt hA hc (hnz (by decide) (by decide)) (hte (by decide) (by decide))
      rw [ed] at this
      refine this.mono ?_
      rintro e w1 ⟨rfl, hb⟩
      exact ⟨hk rfl (by simp [leafR]), hb⟩
    have := leafN v a1 c errs (d + 1) w xk xn xt hA hc (beq_eq_false_iff_ne.2 k1) (beq_eq_false_iff_ne.2 k2) (beq_eq_false_iff_ne.2 k3) (beq_eq_false_iff_ne.2 k4) (beq_eq_false_iff_ne.2 k5) (beq_eq_false_iff_ne.2 k6) (beq_eq_false_iff_ne.2 k7) (beq_eq_false_iff_ne.2 k8) (beq_eq_false_iff_ne.2 k10)
      (by simpa using k4) (by simpa using k5) (by simpa using k6) (by simpa using k9) (hnz k4 k5) (hte k6 k9)
    rw [ed] at this
    refine this.mono ?_
    rintro e w1 ⟨rfl, hb⟩
    exact ⟨hk rfl (by simp [leafR, k1, k2, k3, k4, k5, k6, k10]), hb⟩
theorem tells_any : ∀ d : Nat, d ≤ 1000 → Tells16 d
  | 0, _ => fun v A c errs w hC h0 h300 hc hw => by
    refine (head_fail v A c errs 0 w hC h0 hc (.inl rfl)).mono ?_
    rintro e w1 ⟨rfl, hb⟩
    exact ⟨AnsQ.no _, hb⟩
  | d + 1, hd => fun v A c errs w hC h0 h300 hc hw => by
    have ed : (((d + 1 : Nat) : Int) - 1) = (d : Int) := by omega
    rw [ed]
    exact right_step d (by omega) (tells_any d (by omega)) v A c errs w hC h0 h300 hc hw
/-- What DataRight tells: yes of trees alone, of at most 300 nodes. -/
abbrev SureQ (errs : Bool) (v : List V4) (e : Ending) : Prop := AnsQ (0 < v.length ∧ v.length ≤ 300 ∧ IsTree errs v) e
set_option maxHeartbeats 4000000 in
theorem dataRight_any (v : List V4) (A : Option Addr) (c : Nat) (errs : Bool) (w : World) (hC : Kd.C k27 w A v.length v) (hc : v.length ≤ c) (hw : ∀ x, x ∈ v → x.wf) :
    Calls Tryz.prog 5 #[.slice A v.length c, .bool errs] w fun e w' => SureQ errs v e ∧ Below w.heap.size w w' := by
  by_cases h0 : 0 < v.length
  · have t1 : decide ((0 : Int) < (v.length : Int)) = true := decide_eq_true (by omega)
    by_cases h3 : v.length ≤ 300
    · have t2 : decide ((v.length : Int) ≤ 300) = true := decide_eq_true (by omega)
      have HR := Aside0.mk (right_step 20 (by decide) (tells_any 20 (by decide)) v A c errs w hC h0 h3 hc hw)
      clear hC hw
      go_enter Tryz.func5, Tryz.ntmps5
      go_wp2_with fail
      refine HR.out.mono ?_
      rintro e w1 ⟨⟨b, rfl, hb⟩, hbl⟩
      have HB := Aside0.mk hb
      have HL := Aside0.mk hbl
      clear hb hbl
      go_wp2_with fail
      go_ret
      exact ⟨⟨b, rfl, fun e => ⟨h0, h3, HB.out e⟩⟩, HL.out⟩
    · have t2 : decide ((v.length : Int) ≤ 300) = false := decide_eq_false (by omega)
      clear hC hw
      go_enter Tryz.func5, Tryz.ntmps5
      go_wp2_with fail
      go_ret
      exact ⟨AnsQ.no _, Below.refl _ _⟩
  · have t1 : decide ((0 : Int) < (v.length : Int)) = false := decide_eq_false (by omega)
    clear hC hw
    go_enter Tryz.func5, Tryz.ntmps5
    go_wp2_with fail
    go_ret
    exact ⟨AnsQ.no _, Below.refl _ _⟩
end Go.Proofs.YtdcfbgpcpjjjaaaGreat.Co
