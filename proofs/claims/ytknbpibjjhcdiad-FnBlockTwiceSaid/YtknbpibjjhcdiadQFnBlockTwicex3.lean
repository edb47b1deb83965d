-- written by a program of this session out of the translation (printext.py); not trusted: Lean checks it
import Derived.Test.YtknbpibjjhcdiadQFnBlockTwicex0
import Derived.Test.YtknbpibjjhcdiadQFnBlockTwicex2
namespace Go.Proofs.Ytknbpibjjhcdiad.PFnBlockTwice
open Go.RowKit Go.Proofs.YtknbpibjjhcdiadW.PrintWords Go.Proofs.YtknbpibjjhcdiadW.PrintLast Go.Proofs.YtknbpibjjhcdiadW.PrintMore
attribute [local go_sem] max2_int min2_int max_two min_two max_three min_three max_four min_four   -- for this text's walks alone
set_option linter.unusedVariables false
set_option linter.unusedSimpArgs false

/-! ### spec_plainBlock: function 10 -/
mutual
def spec_plainBlock.j0 : Nat → List ByteArray → Int → Bool → Option (Bool)
  | 0, _, _, _ => none
  | k + 1, x3, x4, x22 => if x22 = true then (some false) else (spec_plainBlock.l0 k x3 x4 1)
def spec_plainBlock.l0 : Nat → List ByteArray → Int → Int → Option (Bool)
  | 0, _, _, _ => none
  | k + 1, x3, x4, x5 => if x5 < (x3.length : Int) then (if 0 ≤ x5 then ((spec_leading.f k (rdOf ByteArray.empty x3 x5)).bind fun t121 => (if t121 = ((rdOf ByteArray.empty x3 x5).size : Int) then (if ((rdOf ByteArray.empty x3 x5).size : Int) > 0 then (if ((rdOf ByteArray.empty x3 x5).size : Int) < x4 then (some false) else (spec_plainBlock.l0 k x3 x4 (wrap64 (x5 + 1)))) else (spec_plainBlock.l0 k x3 x4 (wrap64 (x5 + 1)))) else (spec_plainBlock.l0 k x3 x4 (wrap64 (x5 + 1))))) else (none)) else (some true)
end
def spec_plainBlock.f (k : Nat) (a0 : ByteArray) : Option (Bool) := (spec_Lines.f k a0).bind fun t113 => ((spec_common.f k t113).bind fun t116 => (if t116 > 0 then (if 0 < (t113.length : Int) then ((spec_leading.f k (rdOf ByteArray.empty t113 0)).bind fun t118 => (spec_plainBlock.j0 k t113 t116 (decide (t118 < ((rdOf ByteArray.empty t113 0).size : Int))))) else (none)) else (spec_plainBlock.j0 k t113 t116 false)))
theorem spec_plainBlock.mono_l : ∀ k, (∀ y0 y1 y2, LeO (spec_plainBlock.j0 k y0 y1 y2) (spec_plainBlock.j0 (k + 1) y0 y1 y2)) ∧ (∀ y0 y1 y2, LeO (spec_plainBlock.l0 k y0 y1 y2) (spec_plainBlock.l0 (k + 1) y0 y1 y2))
  | 0 => ⟨fun _ _ _ r h => by simp [spec_plainBlock.j0] at h, fun _ _ _ r h => by simp [spec_plainBlock.l0] at h⟩
  | k + 1 => by
    obtain ⟨ih0, ih1⟩ := spec_plainBlock.mono_l k
    refine ⟨?_, ?_⟩
    · intro y0 y1 y2
      unfold spec_plainBlock.j0
      repeat' first
      | (with_reducible exact ih0 _ _ _)
      | (with_reducible exact ih1 _ _ _)
      | (with_reducible exact spec_Lines.mono _ _)
      | (with_reducible exact spec_common.mono _ _)
      | (with_reducible exact spec_leading.mono _ _)
      | (with_reducible exact LeO.refl _)
      | (with_reducible exact LeO.none _)
      | (with_reducible refine LeO.ite ?_ ?_)
      | (with_reducible refine LeO.bind ?_ (fun _ => ?_))
      | exact ih0 _ _ _
      | exact ih1 _ _ _
      | exact spec_Lines.mono _ _
      | exact spec_common.mono _ _
      | exact spec_leading.mono _ _
      | exact LeO.none _
      | refine LeO.ite ?_ ?_
      | refine LeO.bind ?_ (fun _ => ?_)
    · intro y0 y1 y2
      unfold spec_plainBlock.l0
      repeat' first
      | (with_reducible exact ih0 _ _ _)
      | (with_reducible exact ih1 _ _ _)
      | (with_reducible exact spec_Lines.mono _ _)
      | (with_reducible exact spec_common.mono _ _)
      | (with_reducible exact spec_leading.mono _ _)
      | (with_reducible exact LeO.refl _)
      | (with_reducible exact LeO.none _)
      | (with_reducible refine LeO.ite ?_ ?_)
      | (with_reducible refine LeO.bind ?_ (fun _ => ?_))
      | exact ih0 _ _ _
      | exact ih1 _ _ _
      | exact spec_Lines.mono _ _
      | exact spec_common.mono _ _
      | exact spec_leading.mono _ _
      | exact LeO.none _
      | refine LeO.ite ?_ ?_
      | refine LeO.bind ?_ (fun _ => ?_)
theorem spec_plainBlock.mono : ∀ a0 k, LeO (spec_plainBlock.f k a0) (spec_plainBlock.f (k + 1) a0) := by
  intro a0 k
  obtain ⟨ih0, ih1⟩ := spec_plainBlock.mono_l k
  unfold spec_plainBlock.f
  repeat' first
      | (with_reducible exact ih0 _ _ _)
      | (with_reducible exact ih1 _ _ _)
      | (with_reducible exact spec_Lines.mono _ _)
      | (with_reducible exact spec_common.mono _ _)
      | (with_reducible exact spec_leading.mono _ _)
      | (with_reducible exact LeO.refl _)
      | (with_reducible exact LeO.none _)
      | (with_reducible refine LeO.ite ?_ ?_)
      | (with_reducible refine LeO.bind ?_ (fun _ => ?_))
      | exact ih0 _ _ _
      | exact ih1 _ _ _
      | exact spec_Lines.mono _ _
      | exact spec_common.mono _ _
      | exact spec_leading.mono _ _
      | exact LeO.none _
      | refine LeO.ite ?_ ?_
      | refine LeO.bind ?_ (fun _ => ?_)
set_option maxHeartbeats 8000000 in
set_option maxRecDepth 100000 in
theorem spec_plainBlock.calls (k : Nat) (a0 : ByteArray) (r : Bool) (w : World) (h : spec_plainBlock.f k a0 = some r) :
    Calls Try.prog 10 #[.string a0] w fun e w' => e = .returned (.bool r) ∧ Below w.heap.size w w' := by
  have HB := Aside0.mk (Below.refl w.heap.size w)
  have H : ((spec_Lines.f k a0).bind fun t113 => ((spec_common.f k t113).bind fun t116 => (if t116 > 0 then (if 0 < (t113.length : Int) then ((spec_leading.f k (rdOf ByteArray.empty t113 0)).bind fun t118 => (spec_plainBlock.j0 k t113 t116 (decide (t118 < ((rdOf ByteArray.empty t113 0).size : Int))))) else (none)) else (spec_plainBlock.j0 k t113 t116 false)))) = some r := h
  clear h
  replace H := Option.bind_eq_some_iff.mp H
  obtain ⟨t113, A20, H⟩ := H
  replace H : ((spec_common.f k t113).bind fun t116 => (if t116 > 0 then (if 0 < (t113.length : Int) then ((spec_leading.f k (rdOf ByteArray.empty t113 0)).bind fun t118 => (spec_plainBlock.j0 k t113 t116 (decide (t118 < ((rdOf ByteArray.empty t113 0).size : Int))))) else (none)) else (spec_plainBlock.j0 k t113 t116 false))) = some r := H
  have A2 := Aside0.mk A20
  clear A20
  replace H := Option.bind_eq_some_iff.mp H
  obtain ⟨t116, A30, H⟩ := H
  replace H : (if t116 > 0 then (if 0 < (t113.length : Int) then ((spec_leading.f k (rdOf ByteArray.empty t113 0)).bind fun t118 => (spec_plainBlock.j0 k t113 t116 (decide (t118 < ((rdOf ByteArray.empty t113 0).size : Int))))) else (none)) else (spec_plainBlock.j0 k t113 t116 false)) = some r := H
  have A3 := Aside0.mk A30
  clear A30
  have HC4 := Aside0.mk H
  clear H
  go_enter Try.func10, Try.ntmps10
  go_upto_region 3 with (first | (go_at_call 7; (with_reducible refine (spec_Lines.calls k a0 t113 _ A2.out).mono ?_); rintro e w5 ⟨v114, rfl, ho0, hb⟩; have n0_ := Aside0.mk (Kd.R_lower ho0 (below_size (by repeat (first | (with_reducible first | exact HB.out | apply below_alloc | apply pw_below_drewN | apply below_drew1) | exact HB.out)))); have n1_ := Aside0.mk (below_step (by repeat (first | (with_reducible first | exact HB.out | apply below_alloc | apply pw_below_drewN | apply below_drew1) | exact HB.out)) hb); clear HB; have HO115 := n0_; have HB := n1_; clear n0_ n1_; (try clear hb); (try clear hb2); (try clear hk); (try clear hi); (try clear ho0); obtain ⟨Ao6, co6, eo6⟩ := Kd.R_slice HO115.out; subst eo6) | (go_at_call 12; (with_reducible refine (spec_common.calls k _ _ t113 t116 _ ?side1 ?side2 A3.out).mono ?_); (case side1 => repeat (first | exact (Kd.R_reads' HO115.out).2.2 | (with_reducible refine Kd.C_alloc ?_ _) | (with_reducible refine Kd.C_drewN ?_ _) | (with_reducible refine Kd.C_drew ?_))); (case side2 => exact (Kd.R_reads' HO115.out).2.1); rintro e w7 ⟨rfl, hb⟩; have n0_ := Aside0.mk (Kd.R_below (by (with_reducible repeat (first | apply Kd.R_alloc | apply Kd.R_drewN | apply Kd.R_drew)); exact HO115.out) hb); have n1_ := Aside0.mk (below_step (by repeat (first | (with_reducible first | exact HB.out | apply below_alloc | apply pw_below_drewN | apply below_drew1) | exact HB.out)) hb); clear HO115; clear HB; have HO115 := n0_; have HB := n1_; clear n0_ n1_; (try clear hb); (try clear hb2); (try clear hk); (try clear hi)))
  repeat (go_quiet (first | (go_at_call 7; (with_reducible refine (spec_Lines.calls k a0 t113 _ A2.out).mono ?_); rintro e w5 ⟨v114, rfl, ho0, hb⟩; have n0_ := Aside0.mk (Kd.R_lower ho0 (below_size (by repeat (first | (with_reducible first | exact HB.out | apply below_alloc | apply pw_below_drewN | apply below_drew1) | exact HB.out)))); have n1_ := Aside0.mk (below_step (by repeat (first | (with_reducible first | exact HB.out | apply below_alloc | apply pw_below_drewN | apply below_drew1) | exact HB.out)) hb); clear HB; have HO115 := n0_; have HB := n1_; clear n0_ n1_; (try clear hb); (try clear hb2); (try clear hk); (try clear hi); (try clear ho0); obtain ⟨Ao6, co6, eo6⟩ := Kd.R_slice HO115.out; subst eo6) | (go_at_call 12; (with_reducible refine (spec_common.calls k _ _ t113 t116 _ ?side1 ?side2 A3.out).mono ?_); (case side1 => repeat (first | exact (Kd.R_reads' HO115.out).2.2 | (with_reducible refine Kd.C_alloc ?_ _) | (with_reducible refine Kd.C_drewN ?_ _) | (with_reducible refine Kd.C_drew ?_))); (case side2 => exact (Kd.R_reads' HO115.out).2.1); rintro e w7 ⟨rfl, hb⟩; have n0_ := Aside0.mk (Kd.R_below (by (with_reducible repeat (first | apply Kd.R_alloc | apply Kd.R_drewN | apply Kd.R_drew)); exact HO115.out) hb); have n1_ := Aside0.mk (below_step (by repeat (first | (with_reducible first | exact HB.out | apply below_alloc | apply pw_below_drewN | apply below_drew1) | exact HB.out)) hb); clear HO115; clear HB; have HO115 := n0_; have HB := n1_; clear n0_ n1_; (try clear hb); (try clear hb2); (try clear hk); (try clear hi))); go_upto_region 3 with (first | (go_at_call 7; (with_reducible refine (spec_Lines.calls k a0 t113 _ A2.out).mono ?_); rintro e w5 ⟨v114, rfl, ho0, hb⟩; have n0_ := Aside0.mk (Kd.R_lower ho0 (below_size (by repeat (first | (with_reducible first | exact HB.out | apply below_alloc | apply pw_below_drewN | apply below_drew1) | exact HB.out)))); have n1_ := Aside0.mk (below_step (by repeat (first | (with_reducible first | exact HB.out | apply below_alloc | apply pw_below_drewN | apply below_drew1) | exact HB.out)) hb); clear HB; have HO115 := n0_; have HB := n1_; clear n0_ n1_; (try clear hb); (try clear hb2); (try clear hk); (try clear hi); (try clear ho0); obtain ⟨Ao6, co6, eo6⟩ := Kd.R_slice HO115.out; subst eo6) | (go_at_call 12; (with_reducible refine (spec_common.calls k _ _ t113 t116 _ ?side1 ?side2 A3.out).mono ?_); (case side1 => repeat (first | exact (Kd.R_reads' HO115.out).2.2 | (with_reducible refine Kd.C_alloc ?_ _) | (with_reducible refine Kd.C_drewN ?_ _) | (with_reducible refine Kd.C_drew ?_))); (case side2 => exact (Kd.R_reads' HO115.out).2.1); rintro e w7 ⟨rfl, hb⟩; have n0_ := Aside0.mk (Kd.R_below (by (with_reducible repeat (first | apply Kd.R_alloc | apply Kd.R_drewN | apply Kd.R_drew)); exact HO115.out) hb); have n1_ := Aside0.mk (below_step (by repeat (first | (with_reducible first | exact HB.out | apply below_alloc | apply pw_below_drewN | apply below_drew1) | exact HB.out)) hb); clear HO115; clear HB; have HO115 := n0_; have HB := n1_; clear n0_ n1_; (try clear hb); (try clear hb2); (try clear hk); (try clear hi))))
  (try simp only [Act.put, List.setIfInBounds_toArray, List.set_cons_zero, List.set_cons_succ])
  go_cut [22] (fun v22 wc => ∃ (kq : Nat) (x22_3 : Bool), v22 = .bool x22_3 ∧ Aside0 (spec_plainBlock.j0 kq t113 t116 x22_3 = some r) ∧ Aside0 (kq ≤ k) ∧ Aside0 (Kd.R Kd.string 9 wc w.heap.size (fun _ => True) (.slice Ao6 t113.length co6) t113) ∧ Aside0 (Below w.heap.size w wc))
  case first =>
    have H := HC4.out
    clear HC4
    by_cases c8 : t116 > 0
    · rw [if_pos c8] at H
      have c8b0 : decide (0 < t116) = true := decide_eq_true c8
      clear c8
      (first | rw [c8b0] | (simp only [i64_w, i32_w]; rw [c8b0]) | skip)
      by_cases c9 : 0 < (t113.length : Int)
      · rw [if_pos c9] at H
        have c9b0 : decide (0 < (t113.length : Int)) = true := decide_eq_true c9
        have c9b1 : decide (0 < t113.length) = true := decide_eq_true (by omega)
        clear c9
        replace H := Option.bind_eq_some_iff.mp H
        obtain ⟨t118, A100, H⟩ := H
        replace H : (spec_plainBlock.j0 k t113 t116 (decide (t118 < ((rdOf ByteArray.empty t113 0).size : Int)))) = some r := H
        have A10 := Aside0.mk A100
        clear A100
        have H' := Aside0.mk H
        clear H
        have p117 : 0 ≤ (0 : Int) := (by omega)
        have q117 : 0 < (t113.length : Int) := of_decide_eq_true (by first | (with_reducible assumption) | assumption)
        obtain ⟨ad117, e117, hx117_0⟩ := Kd.at_string (Kd.R_reads' HO115.out).2.2 0 p117 q117
        cases e117
        have qi117 : (0 < t113.length) = True := eq_true (by omega)
        (try rw [show ((0 : Int)).toNat = 0 from rfl] at hx117_0)
        (try rw [Addr.add_zero'] at hx117_0)
        replace p117 := eq_true p117
        replace q117 := eq_true q117
        go_wp2_with (first | (go_at_call 13; (with_reducible refine (spec_leading.calls k (rdOf ByteArray.empty t113 0) t118 _ A10.out).mono ?_); rintro e w' ⟨rfl, ⟨nd, rfl⟩⟩; (try first | exact ⟨rfl, _, World.drewN_drewN _ _ _⟩ | exact ⟨rfl, _, Eq.trans (World.drewN_drewN _ _ _) (congrArg (World.drewN _) (Nat.add_assoc _ _ _))⟩); have p119 : 0 ≤ (0 : Int) := (by omega); have q119 : 0 < (t113.length : Int) := of_decide_eq_true (by first | (with_reducible assumption) | assumption); obtain ⟨ad119, e119, hx119_0⟩ := Kd.at_string (Kd.R_reads' HO115.out).2.2 0 p119 q119; obtain rfl : ad117 = ad119 := (by injection e119); have qi119 : (0 < t113.length) = True := eq_true (by omega); (try rw [show ((0 : Int)).toNat = 0 from rfl] at hx119_0); (try rw [Addr.add_zero'] at hx119_0); replace p119 := eq_true p119; replace q119 := eq_true q119))
        repeat (go_quiet (first | (go_at_call 13; (with_reducible refine (spec_leading.calls k (rdOf ByteArray.empty t113 0) t118 _ A10.out).mono ?_); rintro e w' ⟨rfl, ⟨nd, rfl⟩⟩; (try first | exact ⟨rfl, _, World.drewN_drewN _ _ _⟩ | exact ⟨rfl, _, Eq.trans (World.drewN_drewN _ _ _) (congrArg (World.drewN _) (Nat.add_assoc _ _ _))⟩); have p119 : 0 ≤ (0 : Int) := (by omega); have q119 : 0 < (t113.length : Int) := of_decide_eq_true (by first | (with_reducible assumption) | assumption); obtain ⟨ad119, e119, hx119_0⟩ := Kd.at_string (Kd.R_reads' HO115.out).2.2 0 p119 q119; obtain rfl : ad117 = ad119 := (by injection e119); have qi119 : (0 < t113.length) = True := eq_true (by omega); (try rw [show ((0 : Int)).toNat = 0 from rfl] at hx119_0); (try rw [Addr.add_zero'] at hx119_0); replace p119 := eq_true p119; replace q119 := eq_true q119)); try go_wp2_with (first | (go_at_call 13; (with_reducible refine (spec_leading.calls k (rdOf ByteArray.empty t113 0) t118 _ A10.out).mono ?_); rintro e w' ⟨rfl, ⟨nd, rfl⟩⟩; (try first | exact ⟨rfl, _, World.drewN_drewN _ _ _⟩ | exact ⟨rfl, _, Eq.trans (World.drewN_drewN _ _ _) (congrArg (World.drewN _) (Nat.add_assoc _ _ _))⟩); have p119 : 0 ≤ (0 : Int) := (by omega); have q119 : 0 < (t113.length : Int) := of_decide_eq_true (by first | (with_reducible assumption) | assumption); obtain ⟨ad119, e119, hx119_0⟩ := Kd.at_string (Kd.R_reads' HO115.out).2.2 0 p119 q119; obtain rfl : ad117 = ad119 := (by injection e119); have qi119 : (0 < t113.length) = True := eq_true (by omega); (try rw [show ((0 : Int)).toNat = 0 from rfl] at hx119_0); (try rw [Addr.add_zero'] at hx119_0); replace p119 := eq_true p119; replace q119 := eq_true q119)))
        go_meet
        case rel => exact ⟨_, (decide (t118 < ((rdOf ByteArray.empty t113 0).size : Int))), (by first | rfl | (simp; done) | (simp [*]; done)), H', ⟨by first | omega | exact Nat.le_refl _⟩, ⟨by (with_reducible repeat (first | apply Kd.R_alloc | apply Kd.R_drewN | apply Kd.R_drew)); exact HO115.out⟩, ⟨by repeat (first | (with_reducible first | exact HB.out | apply below_alloc | apply pw_below_drewN | apply below_drew1) | exact HB.out)⟩⟩
      · rw [if_neg c9] at H
        exact absurd H (by simp)
    · rw [if_neg c8] at H
      have c8b0 : decide (0 < t116) = false := decide_eq_false c8
      clear c8
      (first | rw [c8b0] | (simp only [i64_w, i32_w]; rw [c8b0]) | skip)
      have H' := Aside0.mk H
      clear H
      go_wp2
      repeat (go_quiet (fail); try go_wp2)
      go_meet
      case rel => exact ⟨_, (false), (by first | rfl | (simp; done) | (simp [*]; done)), H', ⟨by first | omega | exact Nat.le_refl _⟩, ⟨by (with_reducible repeat (first | apply Kd.R_alloc | apply Kd.R_drewN | apply Kd.R_drew)); exact HO115.out⟩, ⟨by repeat (first | (with_reducible first | exact HB.out | apply below_alloc | apply pw_below_drewN | apply below_drew1) | exact HB.out)⟩⟩
  case rest =>
    clear HC4
    try clear c1
    try clear p1
    try clear q1
    try clear hx1
    try clear qi1
    try clear p2
    try clear c8
    try clear c8b0
    try clear c9
    try clear c9b0
    try clear c9b1
    try clear c10
    try clear hx117_0
    try clear hx119_0
    try clear p117
    try clear p119
    try clear q117
    try clear q119
    obtain ⟨kq, x22_3, rfl, HA, HJ3, HO_3, HB⟩ := hcut
    cases kq with
    | zero => exact absurd HA.out (by simp [spec_plainBlock.j0])
    | succ kj3 =>
      have H := HA.out
      clear HA
      simp only [spec_plainBlock.j0] at H
      by_cases c11 : x22_3 = true
      · subst c11
        have H1 : (some false) = some r := by rw [if_pos rfl] at H; exact H
        clear H
        have H := H1
        clear H1
        obtain rfl := Option.some.inj H
        go_wp2
        repeat (go_quiet (fail); try go_wp2)
        go_ret
        exact ⟨by first | rfl | (simp [errW_none, errW_some] <;> rfl) | (simp [*, errW_none, errW_some] <;> rfl), by repeat (first | (with_reducible first | exact HB.out | apply below_alloc | apply pw_below_drewN | apply below_drew1) | exact HB.out)⟩
      · replace c11 := Bool.eq_false_iff.mpr c11
        subst c11
        have H1 : (spec_plainBlock.l0 kj3 t113 t116 1) = some r := by rw [if_neg (show ¬ (false = true) by decide)] at H; exact H
        clear H
        have H := H1
        clear H1
        have H' := Aside0.mk H
        clear H
        go_wp2
        repeat (go_quiet (fail); try go_wp2)
        go_loopg [5] kj3 (fun kq v5 w' => ∃ (x5_2 : Int), v5 = .int .i64 x5_2 ∧ Aside0 (spec_plainBlock.l0 kq t113 t116 x5_2 = some r) ∧ Aside0 (kq ≤ kj3) ∧ Aside0 (Kd.R Kd.string 9 w' w.heap.size (fun _ => True) (.slice Ao6 t113.length co6) t113) ∧ Aside0 (Below w.heap.size w w'))
        case atStart => exact ⟨(1), (by first | rfl | (simp; done) | (simp [*]; done)), H', ⟨Nat.le_refl _⟩, ⟨by (with_reducible repeat (first | apply Kd.R_alloc | apply Kd.R_drewN | apply Kd.R_drew)); exact HO_3.out⟩, ⟨by repeat (first | (with_reducible first | exact HB.out | apply below_alloc | apply pw_below_drewN | apply below_drew1) | exact HB.out)⟩⟩
        case round =>
          clear H'
          try clear c1
          try clear p1
          try clear q1
          try clear hx1
          try clear qi1
          try clear p2
          try clear c8
          try clear c8b0
          try clear c9
          try clear c9b0
          try clear c9b1
          try clear c10
          try clear c11
          try clear p11
          try clear q11
          try clear hx11
          try clear qi11
          try clear hx117_0
          try clear hx119_0
          try clear p1
          try clear p117
          try clear p119
          try clear p2
          try clear q1
          try clear q117
          try clear q119
          obtain ⟨x5_2, rfl, HA, HK2, HO_3, HB⟩ := hrel
          cases gk with
          | zero => exact absurd HA.out (by simp [spec_plainBlock.l0])
          | succ k2 =>
            have H := HA.out
            clear HA
            simp only [spec_plainBlock.l0] at H
            by_cases c12 : x5_2 < (t113.length : Int)
            · rw [if_pos c12] at H
              have c12b0 : decide (x5_2 < (t113.length : Int)) = true := decide_eq_true c12
              clear c12
              by_cases c13 : 0 ≤ x5_2
              · rw [if_pos c13] at H
                have c13b0 : decide (0 ≤ x5_2) = true := decide_eq_true c13
                clear c13
                replace H := Option.bind_eq_some_iff.mp H
                obtain ⟨t121, A140, H⟩ := H
                replace H : (if t121 = ((rdOf ByteArray.empty t113 x5_2).size : Int) then (if ((rdOf ByteArray.empty t113 x5_2).size : Int) > 0 then (if ((rdOf ByteArray.empty t113 x5_2).size : Int) < t116 then (some false) else (spec_plainBlock.l0 k2 t113 t116 (wrap64 (x5_2 + 1)))) else (spec_plainBlock.l0 k2 t113 t116 (wrap64 (x5_2 + 1)))) else (spec_plainBlock.l0 k2 t113 t116 (wrap64 (x5_2 + 1)))) = some r := H
                have A14 := Aside0.mk A140
                clear A140
                by_cases c15 : t121 = ((rdOf ByteArray.empty t113 x5_2).size : Int)
                · rw [if_pos c15] at H
                  have c15b0 : (t121 == ((rdOf ByteArray.empty t113 x5_2).size : Int)) = true := beq_iff_eq.mpr c15
                  have c15b1 : (t121 != ((rdOf ByteArray.empty t113 x5_2).size : Int)) = false := bne_eq_false_iff_eq.mpr c15
                  clear c15
                  by_cases c16 : ((rdOf ByteArray.empty t113 x5_2).size : Int) > 0
                  · rw [if_pos c16] at H
                    have c16b0 : decide (0 < ((rdOf ByteArray.empty t113 x5_2).size : Int)) = true := decide_eq_true c16
                    have c16b1 : decide (0 < (rdOf ByteArray.empty t113 x5_2).size) = true := decide_eq_true (by omega)
                    clear c16
                    by_cases c17 : ((rdOf ByteArray.empty t113 x5_2).size : Int) < t116
                    · rw [if_pos c17] at H
                      have c17b0 : decide (((rdOf ByteArray.empty t113 x5_2).size : Int) < t116) = true := decide_eq_true c17
                      clear c17
                      obtain rfl := Option.some.inj H
                      have p120 : 0 ≤ (x5_2 : Int) := of_decide_eq_true (by first | (with_reducible assumption) | assumption)
                      have q120 : x5_2 < (t113.length : Int) := of_decide_eq_true (by first | (with_reducible assumption) | assumption)
                      obtain ⟨ad120, e120, hx120_0⟩ := Kd.at_string (Kd.R_reads' HO_3.out).2.2 x5_2 p120 q120
                      cases e120
                      replace p120 := eq_true p120
                      replace q120 := eq_true q120
                      go_wp2_with (first | (go_at_call 13; (with_reducible refine (spec_leading.calls k2 (rdOf ByteArray.empty t113 x5_2) t121 _ A14.out).mono ?_); rintro e w' ⟨rfl, ⟨nd, rfl⟩⟩; (try first | exact ⟨rfl, _, World.drewN_drewN _ _ _⟩ | exact ⟨rfl, _, Eq.trans (World.drewN_drewN _ _ _) (congrArg (World.drewN _) (Nat.add_assoc _ _ _))⟩); have p122 : 0 ≤ (x5_2 : Int) := of_decide_eq_true (by first | (with_reducible assumption) | assumption); have q122 : x5_2 < (t113.length : Int) := of_decide_eq_true (by first | (with_reducible assumption) | assumption); obtain ⟨ad122, e122, hx122_0⟩ := Kd.at_string (Kd.R_reads' HO_3.out).2.2 x5_2 p122 q122; obtain rfl : ad120 = ad122 := (by injection e122); replace p122 := eq_true p122; replace q122 := eq_true q122; have p123 : 0 ≤ (x5_2 : Int) := of_decide_eq_true (by first | (with_reducible assumption) | assumption); have q123 : x5_2 < (t113.length : Int) := of_decide_eq_true (by first | (with_reducible assumption) | assumption); obtain ⟨ad123, e123, hx123_0⟩ := Kd.at_string (Kd.R_reads' HO_3.out).2.2 x5_2 p123 q123; obtain rfl : ad120 = ad123 := (by injection e123); replace p123 := eq_true p123; replace q123 := eq_true q123; have p124 : 0 ≤ (x5_2 : Int) := of_decide_eq_true (by first | (with_reducible assumption) | assumption); have q124 : x5_2 < (t113.length : Int) := of_decide_eq_true (by first | (with_reducible assumption) | assumption); obtain ⟨ad124, e124, hx124_0⟩ := Kd.at_string (Kd.R_reads' HO_3.out).2.2 x5_2 p124 q124; obtain rfl : ad120 = ad124 := (by injection e124); replace p124 := eq_true p124; replace q124 := eq_true q124))
                      repeat (go_quiet (first | (go_at_call 13; (with_reducible refine (spec_leading.calls k2 (rdOf ByteArray.empty t113 x5_2) t121 _ A14.out).mono ?_); rintro e w' ⟨rfl, ⟨nd, rfl⟩⟩; (try first | exact ⟨rfl, _, World.drewN_drewN _ _ _⟩ | exact ⟨rfl, _, Eq.trans (World.drewN_drewN _ _ _) (congrArg (World.drewN _) (Nat.add_assoc _ _ _))⟩); have p122 : 0 ≤ (x5_2 : Int) := of_decide_eq_true (by first | (with_reducible assumption) | assumption); have q122 : x5_2 < (t113.length : Int) := of_decide_eq_true (by first | (with_reducible assumption) | assumption); obtain ⟨ad122, e122, hx122_0⟩ := Kd.at_string (Kd.R_reads' HO_3.out).2.2 x5_2 p122 q122; obtain rfl : ad120 = ad122 := (by injection e122); replace p122 := eq_true p122; replace q122 := eq_true q122; have p123 : 0 ≤ (x5_2 : Int) := of_decide_eq_true (by first | (with_reducible assumption) | assumption); have q123 : x5_2 < (t113.length : Int) := of_decide_eq_true (by first | (with_reducible assumption) | assumption); obtain ⟨ad123, e123, hx123_0⟩ := Kd.at_string (Kd.R_reads' HO_3.out).2.2 x5_2 p123 q123; obtain rfl : ad120 = ad123 := (by injection e123); replace p123 := eq_true p123; replace q123 := eq_true q123; have p124 : 0 ≤ (x5_2 : Int) := of_decide_eq_true (by first | (with_reducible assumption) | assumption); have q124 : x5_2 < (t113.length : Int) := of_decide_eq_true (by first | (with_reducible assumption) | assumption); obtain ⟨ad124, e124, hx124_0⟩ := Kd.at_string (Kd.R_reads' HO_3.out).2.2 x5_2 p124 q124; obtain rfl : ad120 = ad124 := (by injection e124); replace p124 := eq_true p124; replace q124 := eq_true q124)); try go_wp2_with (first | (go_at_call 13; (with_reducible refine (spec_leading.calls k2 (rdOf ByteArray.empty t113 x5_2) t121 _ A14.out).mono ?_); rintro e w' ⟨rfl, ⟨nd, rfl⟩⟩; (try first | exact ⟨rfl, _, World.drewN_drewN _ _ _⟩ | exact ⟨rfl, _, Eq.trans (World.drewN_drewN _ _ _) (congrArg (World.drewN _) (Nat.add_assoc _ _ _))⟩); have p122 : 0 ≤ (x5_2 : Int) := of_decide_eq_true (by first | (with_reducible assumption) | assumption); have q122 : x5_2 < (t113.length : Int) := of_decide_eq_true (by first | (with_reducible assumption) | assumption); obtain ⟨ad122, e122, hx122_0⟩ := Kd.at_string (Kd.R_reads' HO_3.out).2.2 x5_2 p122 q122; obtain rfl : ad120 = ad122 := (by injection e122); replace p122 := eq_true p122; replace q122 := eq_true q122; have p123 : 0 ≤ (x5_2 : Int) := of_decide_eq_true (by first | (with_reducible assumption) | assumption); have q123 : x5_2 < (t113.length : Int) := of_decide_eq_true (by first | (with_reducible assumption) | assumption); obtain ⟨ad123, e123, hx123_0⟩ := Kd.at_string (Kd.R_reads' HO_3.out).2.2 x5_2 p123 q123; obtain rfl : ad120 = ad123 := (by injection e123); replace p123 := eq_true p123; replace q123 := eq_true q123; have p124 : 0 ≤ (x5_2 : Int) := of_decide_eq_true (by first | (with_reducible assumption) | assumption); have q124 : x5_2 < (t113.length : Int) := of_decide_eq_true (by first | (with_reducible assumption) | assumption); obtain ⟨ad124, e124, hx124_0⟩ := Kd.at_string (Kd.R_reads' HO_3.out).2.2 x5_2 p124 q124; obtain rfl : ad120 = ad124 := (by injection e124); replace p124 := eq_true p124; replace q124 := eq_true q124)))
                      go_ret
                      exact ⟨by first | rfl | (simp [errW_none, errW_some] <;> rfl) | (simp [*, errW_none, errW_some] <;> rfl), by repeat (first | (with_reducible first | exact HB.out | apply below_alloc | apply pw_below_drewN | apply below_drew1) | exact HB.out)⟩
                    · rw [if_neg c17] at H
                      have c17b0 : decide (((rdOf ByteArray.empty t113 x5_2).size : Int) < t116) = false := decide_eq_false c17
                      clear c17
                      have H' := Aside0.mk H
                      clear H
                      have p120 : 0 ≤ (x5_2 : Int) := of_decide_eq_true (by first | (with_reducible assumption) | assumption)
                      have q120 : x5_2 < (t113.length : Int) := of_decide_eq_true (by first | (with_reducible assumption) | assumption)
                      obtain ⟨ad120, e120, hx120_0⟩ := Kd.at_string (Kd.R_reads' HO_3.out).2.2 x5_2 p120 q120
                      cases e120
                      replace p120 := eq_true p120
                      replace q120 := eq_true q120
                      go_wp2_with (first | (go_at_call 13; (with_reducible refine (spec_leading.calls k2 (rdOf ByteArray.empty t113 x5_2) t121 _ A14.out).mono ?_); rintro e w' ⟨rfl, ⟨nd, rfl⟩⟩; (try first | exact ⟨rfl, _, World.drewN_drewN _ _ _⟩ | exact ⟨rfl, _, Eq.trans (World.drewN_drewN _ _ _) (congrArg (World.drewN _) (Nat.add_assoc _ _ _))⟩); have p122 : 0 ≤ (x5_2 : Int) := of_decide_eq_true (by first | (with_reducible assumption) | assumption); have q122 : x5_2 < (t113.length : Int) := of_decide_eq_true (by first | (with_reducible assumption) | assumption); obtain ⟨ad122, e122, hx122_0⟩ := Kd.at_string (Kd.R_reads' HO_3.out).2.2 x5_2 p122 q122; obtain rfl : ad120 = ad122 := (by injection e122); replace p122 := eq_true p122; replace q122 := eq_true q122; have p123 : 0 ≤ (x5_2 : Int) := of_decide_eq_true (by first | (with_reducible assumption) | assumption); have q123 : x5_2 < (t113.length : Int) := of_decide_eq_true (by first | (with_reducible assumption) | assumption); obtain ⟨ad123, e123, hx123_0⟩ := Kd.at_string (Kd.R_reads' HO_3.out).2.2 x5_2 p123 q123; obtain rfl : ad120 = ad123 := (by injection e123); replace p123 := eq_true p123; replace q123 := eq_true q123; have p124 : 0 ≤ (x5_2 : Int) := of_decide_eq_true (by first | (with_reducible assumption) | assumption); have q124 : x5_2 < (t113.length : Int) := of_decide_eq_true (by first | (with_reducible assumption) | assumption); obtain ⟨ad124, e124, hx124_0⟩ := Kd.at_string (Kd.R_reads' HO_3.out).2.2 x5_2 p124 q124; obtain rfl : ad120 = ad124 := (by injection e124); replace p124 := eq_true p124; replace q124 := eq_true q124))
                      repeat (go_quiet (first | (go_at_call 13; (with_reducible refine (spec_leading.calls k2 (rdOf ByteArray.empty t113 x5_2) t121 _ A14.out).mono ?_); rintro e w' ⟨rfl, ⟨nd, rfl⟩⟩; (try first | exact ⟨rfl, _, World.drewN_drewN _ _ _⟩ | exact ⟨rfl, _, Eq.trans (World.drewN_drewN _ _ _) (congrArg (World.drewN _) (Nat.add_assoc _ _ _))⟩); have p122 : 0 ≤ (x5_2 : Int) := of_decide_eq_true (by first | (with_reducible assumption) | assumption); have q122 : x5_2 < (t113.length : Int) := of_decide_eq_true (by first | (with_reducible assumption) | assumption); obtain ⟨ad122, e122, hx122_0⟩ := Kd.at_string (Kd.R_reads' HO_3.out).2.2 x5_2 p122 q122; obtain rfl : ad120 = ad122 := (by injection e122); replace p122 := eq_true p122; replace q122 := eq_true q122; have p123 : 0 ≤ (x5_2 : Int) := of_decide_eq_true (by first | (with_reducible assumption) | assumption); have q123 : x5_2 < (t113.length : Int) := of_decide_eq_true (by first | (with_reducible assumption) | assumption); obtain ⟨ad123, e123, hx123_0⟩ := Kd.at_string (Kd.R_reads' HO_3.out).2.2 x5_2 p123 q123; obtain rfl : ad120 = ad123 := (by injection e123); replace p123 := eq_true p123; replace q123 := eq_true q123; have p124 : 0 ≤ (x5_2 : Int) := of_decide_eq_true (by first | (with_reducible assumption) | assumption); have q124 : x5_2 < (t113.length : Int) := of_decide_eq_true (by first | (with_reducible assumption) | assumption); obtain ⟨ad124, e124, hx124_0⟩ := Kd.at_string (Kd.R_reads' HO_3.out).2.2 x5_2 p124 q124; obtain rfl : ad120 = ad124 := (by injection e124); replace p124 := eq_true p124; replace q124 := eq_true q124)); try go_wp2_with (first | (go_at_call 13; (with_reducible refine (spec_leading.calls k2 (rdOf ByteArray.empty t113 x5_2) t121 _ A14.out).mono ?_); rintro e w' ⟨rfl, ⟨nd, rfl⟩⟩; (try first | exact ⟨rfl, _, World.drewN_drewN _ _ _⟩ | exact ⟨rfl, _, Eq.trans (World.drewN_drewN _ _ _) (congrArg (World.drewN _) (Nat.add_assoc _ _ _))⟩); have p122 : 0 ≤ (x5_2 : Int) := of_decide_eq_true (by first | (with_reducible assumption) | assumption); have q122 : x5_2 < (t113.length : Int) := of_decide_eq_true (by first | (with_reducible assumption) | assumption); obtain ⟨ad122, e122, hx122_0⟩ := Kd.at_string (Kd.R_reads' HO_3.out).2.2 x5_2 p122 q122; obtain rfl : ad120 = ad122 := (by injection e122); replace p122 := eq_true p122; replace q122 := eq_true q122; have p123 : 0 ≤ (x5_2 : Int) := of_decide_eq_true (by first | (with_reducible assumption) | assumption); have q123 : x5_2 < (t113.length : Int) := of_decide_eq_true (by first | (with_reducible assumption) | assumption); obtain ⟨ad123, e123, hx123_0⟩ := Kd.at_string (Kd.R_reads' HO_3.out).2.2 x5_2 p123 q123; obtain rfl : ad120 = ad123 := (by injection e123); replace p123 := eq_true p123; replace q123 := eq_true q123; have p124 : 0 ≤ (x5_2 : Int) := of_decide_eq_true (by first | (with_reducible assumption) | assumption); have q124 : x5_2 < (t113.length : Int) := of_decide_eq_true (by first | (with_reducible assumption) | assumption); obtain ⟨ad124, e124, hx124_0⟩ := Kd.at_string (Kd.R_reads' HO_3.out).2.2 x5_2 p124 q124; obtain rfl : ad120 = ad124 := (by injection e124); replace p124 := eq_true p124; replace q124 := eq_true q124)))
                      go_roundg k2
                      case measure => have := HJ3.out; have := HK2.out; omega
                      case rel => exact ⟨(wrap64 (x5_2 + 1)), (by first | rfl | (simp; done) | (simp [*]; done)), H', ⟨by have := HJ3.out; have := HK2.out; omega⟩, ⟨by (with_reducible repeat (first | apply Kd.R_alloc | apply Kd.R_drewN | apply Kd.R_drew)); exact HO_3.out⟩, ⟨by repeat (first | (with_reducible first | exact HB.out | apply below_alloc | apply pw_below_drewN | apply below_drew1) | exact HB.out)⟩⟩
                  · rw [if_neg c16] at H
                    have c16b0 : decide (0 < ((rdOf ByteArray.empty t113 x5_2).size : Int)) = false := decide_eq_false c16
                    have c16b1 : decide (0 < (rdOf ByteArray.empty t113 x5_2).size) = false := decide_eq_false (by omega)
                    clear c16
                    have H' := Aside0.mk H
                    clear H
                    have p120 : 0 ≤ (x5_2 : Int) := of_decide_eq_true (by first | (with_reducible assumption) | assumption)
                    have q120 : x5_2 < (t113.length : Int) := of_decide_eq_true (by first | (with_reducible assumption) | assumption)
                    obtain ⟨ad120, e120, hx120_0⟩ := Kd.at_string (Kd.R_reads' HO_3.out).2.2 x5_2 p120 q120
                    cases e120
                    replace p120 := eq_true p120
                    replace q120 := eq_true q120
                    go_wp2_with (first | (go_at_call 13; (with_reducible refine (spec_leading.calls k2 (rdOf ByteArray.empty t113 x5_2) t121 _ A14.out).mono ?_); rintro e w' ⟨rfl, ⟨nd, rfl⟩⟩; (try first | exact ⟨rfl, _, World.drewN_drewN _ _ _⟩ | exact ⟨rfl, _, Eq.trans (World.drewN_drewN _ _ _) (congrArg (World.drewN _) (Nat.add_assoc _ _ _))⟩); have p122 : 0 ≤ (x5_2 : Int) := of_decide_eq_true (by first | (with_reducible assumption) | assumption); have q122 : x5_2 < (t113.length : Int) := of_decide_eq_true (by first | (with_reducible assumption) | assumption); obtain ⟨ad122, e122, hx122_0⟩ := Kd.at_string (Kd.R_reads' HO_3.out).2.2 x5_2 p122 q122; obtain rfl : ad120 = ad122 := (by injection e122); replace p122 := eq_true p122; replace q122 := eq_true q122; have p123 : 0 ≤ (x5_2 : Int) := of_decide_eq_true (by first | (with_reducible assumption) | assumption); have q123 : x5_2 < (t113.length : Int) := of_decide_eq_true (by first | (with_reducible assumption) | assumption); obtain ⟨ad123, e123, hx123_0⟩ := Kd.at_string (Kd.R_reads' HO_3.out).2.2 x5_2 p123 q123; obtain rfl : ad120 = ad123 := (by injection e123); replace p123 := eq_true p123; replace q123 := eq_true q123))
                    repeat (go_quiet (first | (go_at_call 13; (with_reducible refine (spec_leading.calls k2 (rdOf ByteArray.empty t113 x5_2) t121 _ A14.out).mono ?_); rintro e w' ⟨rfl, ⟨nd, rfl⟩⟩; (try first | exact ⟨rfl, _, World.drewN_drewN _ _ _⟩ | exact ⟨rfl, _, Eq.trans (World.drewN_drewN _ _ _) (congrArg (World.drewN _) (Nat.add_assoc _ _ _))⟩); have p122 : 0 ≤ (x5_2 : Int) := of_decide_eq_true (by first | (with_reducible assumption) | assumption); have q122 : x5_2 < (t113.length : Int) := of_decide_eq_true (by first | (with_reducible assumption) | assumption); obtain ⟨ad122, e122, hx122_0⟩ := Kd.at_string (Kd.R_reads' HO_3.out).2.2 x5_2 p122 q122; obtain rfl : ad120 = ad122 := (by injection e122); replace p122 := eq_true p122; replace q122 := eq_true q122; have p123 : 0 ≤ (x5_2 : Int) := of_decide_eq_true (by first | (with_reducible assumption) | assumption); have q123 : x5_2 < (t113.length : Int) := of_decide_eq_true (by first | (with_reducible assumption) | assumption); obtain ⟨ad123, e123, hx123_0⟩ := Kd.at_string (Kd.R_reads' HO_3.out).2.2 x5_2 p123 q123; obtain rfl : ad120 = ad123 := (by injection e123); replace p123 := eq_true p123; replace q123 := eq_true q123)); try go_wp2_with (first | (go_at_call 13; (with_reducible refine (spec_leading.calls k2 (rdOf ByteArray.empty t113 x5_2) t121 _ A14.out).mono ?_); rintro e w' ⟨rfl, ⟨nd, rfl⟩⟩; (try first | exact ⟨rfl, _, World.drewN_drewN _ _ _⟩ | exact ⟨rfl, _, Eq.trans (World.drewN_drewN _ _ _) (congrArg (World.drewN _) (Nat.add_assoc _ _ _))⟩); have p122 : 0 ≤ (x5_2 : Int) := of_decide_eq_true (by first | (with_reducible assumption) | assumption); have q122 : x5_2 < (t113.length : Int) := of_decide_eq_true (by first | (with_reducible assumption) | assumption); obtain ⟨ad122, e122, hx122_0⟩ := Kd.at_string (Kd.R_reads' HO_3.out).2.2 x5_2 p122 q122; obtain rfl : ad120 = ad122 := (by injection e122); replace p122 := eq_true p122; replace q122 := eq_true q122; have p123 : 0 ≤ (x5_2 : Int) := of_decide_eq_true (by first | (with_reducible assumption) | assumption); have q123 : x5_2 < (t113.length : Int) := of_decide_eq_true (by first | (with_reducible assumption) | assumption); obtain ⟨ad123, e123, hx123_0⟩ := Kd.at_string (Kd.R_reads' HO_3.out).2.2 x5_2 p123 q123; obtain rfl : ad120 = ad123 := (by injection e123); replace p123 := eq_true p123; replace q123 := eq_true q123)))
                    go_roundg k2
                    case measure => have := HJ3.out; have := HK2.out; omega
                    case rel => exact ⟨(wrap64 (x5_2 + 1)), (by first | rfl | (simp; done) | (simp [*]; done)), H', ⟨by have := HJ3.out; have := HK2.out; omega⟩, ⟨by (with_reducible repeat (first | apply Kd.R_alloc | apply Kd.R_drewN | apply Kd.R_drew)); exact HO_3.out⟩, ⟨by repeat (first | (with_reducible first | exact HB.out | apply below_alloc | apply pw_below_drewN | apply below_drew1) | exact HB.out)⟩⟩
                · rw [if_neg c15] at H
                  have c15b0 : (t121 == ((rdOf ByteArray.empty t113 x5_2).size : Int)) = false := beq_eq_false_iff_ne.mpr c15
                  have c15b1 : (t121 != ((rdOf ByteArray.empty t113 x5_2).size : Int)) = true := bne_iff_ne.mpr c15
                  have H' := Aside0.mk H
                  clear H
                  have p120 : 0 ≤ (x5_2 : Int) := of_decide_eq_true (by first | (with_reducible assumption) | assumption)
                  have q120 : x5_2 < (t113.length : Int) := of_decide_eq_true (by first | (with_reducible assumption) | assumption)
                  obtain ⟨ad120, e120, hx120_0⟩ := Kd.at_string (Kd.R_reads' HO_3.out).2.2 x5_2 p120 q120
                  cases e120
                  replace p120 := eq_true p120
                  replace q120 := eq_true q120
                  go_wp2_with (first | (go_at_call 13; (with_reducible refine (spec_leading.calls k2 (rdOf ByteArray.empty t113 x5_2) t121 _ A14.out).mono ?_); rintro e w' ⟨rfl, ⟨nd, rfl⟩⟩; (try first | exact ⟨rfl, _, World.drewN_drewN _ _ _⟩ | exact ⟨rfl, _, Eq.trans (World.drewN_drewN _ _ _) (congrArg (World.drewN _) (Nat.add_assoc _ _ _))⟩); have p122 : 0 ≤ (x5_2 : Int) := of_decide_eq_true (by first | (with_reducible assumption) | assumption); have q122 : x5_2 < (t113.length : Int) := of_decide_eq_true (by first | (with_reducible assumption) | assumption); obtain ⟨ad122, e122, hx122_0⟩ := Kd.at_string (Kd.R_reads' HO_3.out).2.2 x5_2 p122 q122; obtain rfl : ad120 = ad122 := (by injection e122); replace p122 := eq_true p122; replace q122 := eq_true q122))
                  repeat (go_quiet (first | (go_at_call 13; (with_reducible refine (spec_leading.calls k2 (rdOf ByteArray.empty t113 x5_2) t121 _ A14.out).mono ?_); rintro e w' ⟨rfl, ⟨nd, rfl⟩⟩; (try first | exact ⟨rfl, _, World.drewN_drewN _ _ _⟩ | exact ⟨rfl, _, Eq.trans (World.drewN_drewN _ _ _) (congrArg (World.drewN _) (Nat.add_assoc _ _ _))⟩); have p122 : 0 ≤ (x5_2 : Int) := of_decide_eq_true (by first | (with_reducible assumption) | assumption); have q122 : x5_2 < (t113.length : Int) := of_decide_eq_true (by first | (with_reducible assumption) | assumption); obtain ⟨ad122, e122, hx122_0⟩ := Kd.at_string (Kd.R_reads' HO_3.out).2.2 x5_2 p122 q122; obtain rfl : ad120 = ad122 := (by injection e122); replace p122 := eq_true p122; replace q122 := eq_true q122)); try go_wp2_with (first | (go_at_call 13; (with_reducible refine (spec_leading.calls k2 (rdOf ByteArray.empty t113 x5_2) t121 _ A14.out).mono ?_); rintro e w' ⟨rfl, ⟨nd, rfl⟩⟩; (try first | exact ⟨rfl, _, World.drewN_drewN _ _ _⟩ | exact ⟨rfl, _, Eq.trans (World.drewN_drewN _ _ _) (congrArg (World.drewN _) (Nat.add_assoc _ _ _))⟩); have p122 : 0 ≤ (x5_2 : Int) := of_decide_eq_true (by first | (with_reducible assumption) | assumption); have q122 : x5_2 < (t113.length : Int) := of_decide_eq_true (by first | (with_reducible assumption) | assumption); obtain ⟨ad122, e122, hx122_0⟩ := Kd.at_string (Kd.R_reads' HO_3.out).2.2 x5_2 p122 q122; obtain rfl : ad120 = ad122 := (by injection e122); replace p122 := eq_true p122; replace q122 := eq_true q122)))
                  go_roundg k2
                  case measure => have := HJ3.out; have := HK2.out; omega
                  case rel => exact ⟨(wrap64 (x5_2 + 1)), (by first | rfl | (simp; done) | (simp [*]; done)), H', ⟨by have := HJ3.out; have := HK2.out; omega⟩, ⟨by (with_reducible repeat (first | apply Kd.R_alloc | apply Kd.R_drewN | apply Kd.R_drew)); exact HO_3.out⟩, ⟨by repeat (first | (with_reducible first | exact HB.out | apply below_alloc | apply pw_below_drewN | apply below_drew1) | exact HB.out)⟩⟩
              · rw [if_neg c13] at H
                exact absurd H (by simp)
            · rw [if_neg c12] at H
              have c12b0 : decide (x5_2 < (t113.length : Int)) = false := decide_eq_false c12
              clear c12
              obtain rfl := Option.some.inj H
              go_wp2
              repeat (go_quiet (fail); try go_wp2)
              go_ret
              exact ⟨by first | rfl | (simp [errW_none, errW_some] <;> rfl) | (simp [*, errW_none, errW_some] <;> rfl), by repeat (first | (with_reducible first | exact HB.out | apply below_alloc | apply pw_below_drewN | apply below_drew1) | exact HB.out)⟩

/-! ### spec_BlockSure: function 5 -/
def spec_BlockSure.f (k : Nat) (a0 : ByteArray) : Option (Bool) := (spec_plainBlock.f k a0).bind fun t125 => (some t125)
theorem spec_BlockSure.mono : ∀ a0 k, LeO (spec_BlockSure.f k a0) (spec_BlockSure.f (k + 1) a0) := by
  intro a0 k
  unfold spec_BlockSure.f
  repeat' first
      | (with_reducible exact spec_plainBlock.mono _ _)
      | (with_reducible exact LeO.refl _)
      | (with_reducible exact LeO.none _)
      | (with_reducible refine LeO.ite ?_ ?_)
      | (with_reducible refine LeO.bind ?_ (fun _ => ?_))
      | exact spec_plainBlock.mono _ _
      | exact LeO.none _
      | refine LeO.ite ?_ ?_
      | refine LeO.bind ?_ (fun _ => ?_)
set_option maxHeartbeats 8000000 in
set_option maxRecDepth 100000 in
theorem spec_BlockSure.calls (k : Nat) (a0 : ByteArray) (r : Bool) (w : World) (h : spec_BlockSure.f k a0 = some r) :
    Calls Try.prog 5 #[.string a0] w fun e w' => e = .returned (.bool r) ∧ Below w.heap.size w w' := by
  have HB := Aside0.mk (Below.refl w.heap.size w)
  have H : ((spec_plainBlock.f k a0).bind fun t125 => (some t125)) = some r := h
  clear h
  replace H := Option.bind_eq_some_iff.mp H
  obtain ⟨t125, A20, H⟩ := H
  replace H : (some t125) = some r := H
  have A2 := Aside0.mk A20
  clear A20
  obtain rfl := Option.some.inj H
  go_enter Try.func5, Try.ntmps5
  go_wp2_with (first | ((with_reducible refine gate_callee (f := 10) rfl ?_); refine goesL_ (some 4) rfl rfl Try.func10 (by kernel_rfl) rfl #[.string a0] rfl (by (try simp only [List.map_toArray, List.map_cons, List.map_nil]); first | done | rfl | (simp only [List.length_drop, List.length_take]; rfl)) ?_; (with_reducible refine (spec_plainBlock.calls k a0 t125 _ A2.out).mono ?_); rintro e w3 ⟨rfl, hb⟩; refine ⟨_, rfl, ?_⟩; have n0_ := Aside0.mk (below_step (by repeat (first | (with_reducible first | exact HB.out | apply below_alloc | apply pw_below_drewN | apply below_drew1) | exact HB.out)) hb); clear HB; have HB := n0_; clear n0_; (try clear hb); (try clear hb2); (try clear hk); (try clear hi)))
  go_ret
  exact ⟨by first | rfl | (simp [errW_none, errW_some] <;> rfl) | (simp [*, errW_none, errW_some] <;> rfl), by repeat (first | (with_reducible first | exact HB.out | apply below_alloc | apply pw_below_drewN | apply below_drew1) | exact HB.out)⟩

/-! ### lexer_zzLines: function 16 -/
mutual
def lexer_zzLines.l0 : Nat → ByteArray → List ByteArray → Int → Int → Option (List ByteArray)
  | 0, _, _, _, _ => none
  | k + 1, x0, x3, x4, x5 => if x5 < (x0.size : Int) then (if 0 ≤ x5 then (if (bt x0 x5) = 13 then (lexer_zzLines.j1 k x0 x3 x4 x5 false) else (lexer_zzLines.j1 k x0 x3 x4 x5 ((bt x0 x5) != 10))) else (none)) else (if 0 ≤ x4 then (if x4 ≤ (x0.size : Int) then (if x3.length < 8796093022208 then (some (x3 ++ [x0.extract (x4 : Int).toNat x0.size])) else (none)) else (none)) else (none))
def lexer_zzLines.j1 : Nat → ByteArray → List ByteArray → Int → Int → Bool → Option (List ByteArray)
  | 0, _, _, _, _, _ => none
  | k + 1, x0, x3, x4, x5, x21 => if x21 = true then (lexer_zzLines.l0 k x0 x3 x4 (wrap64 (x5 + 1))) else (if 0 ≤ x4 then (if x4 ≤ x5 then (if x5 ≤ (x0.size : Int) then (if x3.length < 8796093022208 then ((some (x3 ++ [x0.extract (x4 : Int).toNat (x5 : Int).toNat] : List ByteArray)).bind fun y129 => (if 0 ≤ x5 then (if x5 < (x0.size : Int) then (if (bt x0 x5) = 13 then (if (wrap64 (x5 + 1)) < (x0.size : Int) then (if 0 ≤ (wrap64 (x5 + 1)) then (if (bt x0 (wrap64 (x5 + 1))) = 10 then (lexer_zzLines.l0 k x0 y129 (wrap64 ((wrap64 (x5 + 1)) + 1)) (wrap64 ((wrap64 (x5 + 1)) + 1))) else (lexer_zzLines.l0 k x0 y129 (wrap64 (x5 + 1)) (wrap64 (x5 + 1)))) else (none)) else (lexer_zzLines.l0 k x0 y129 (wrap64 (x5 + 1)) (wrap64 (x5 + 1)))) else (lexer_zzLines.l0 k x0 y129 (wrap64 (x5 + 1)) (wrap64 (x5 + 1)))) else (none)) else (none))) else (none)) else (none)) else (none)) else (none))
end
def lexer_zzLines.f (k : Nat) (a0 : ByteArray) : Option (List ByteArray) := lexer_zzLines.l0 k a0 ([] : List ByteArray) 0 0
theorem lexer_zzLines.mono_l : ∀ k, (∀ y0 y1 y2 y3, LeO (lexer_zzLines.l0 k y0 y1 y2 y3) (lexer_zzLines.l0 (k + 1) y0 y1 y2 y3)) ∧ (∀ y0 y1 y2 y3 y4, LeO (lexer_zzLines.j1 k y0 y1 y2 y3 y4) (lexer_zzLines.j1 (k + 1) y0 y1 y2 y3 y4))
  | 0 => ⟨fun _ _ _ _ r h => by simp [lexer_zzLines.l0] at h, fun _ _ _ _ _ r h => by simp [lexer_zzLines.j1] at h⟩
  | k + 1 => by
    obtain ⟨ih0, ih1⟩ := lexer_zzLines.mono_l k
    refine ⟨?_, ?_⟩
    · intro y0 y1 y2 y3
      unfold lexer_zzLines.l0
      repeat' first
      | (with_reducible exact ih0 _ _ _ _)
      | (with_reducible exact ih1 _ _ _ _ _)
      | (with_reducible exact LeO.refl _)
      | (with_reducible exact LeO.none _)
      | (with_reducible refine LeO.ite ?_ ?_)
      | (with_reducible refine LeO.bind ?_ (fun _ => ?_))
      | exact ih0 _ _ _ _
      | exact ih1 _ _ _ _ _
      | exact LeO.none _
      | refine LeO.ite ?_ ?_
      | refine LeO.bind ?_ (fun _ => ?_)
    · intro y0 y1 y2 y3 y4
      unfold lexer_zzLines.j1
      repeat' first
      | (with_reducible exact ih0 _ _ _ _)
      | (with_reducible exact ih1 _ _ _ _ _)
      | (with_reducible exact LeO.refl _)
      | (with_reducible exact LeO.none _)
      | (with_reducible refine LeO.ite ?_ ?_)
      | (with_reducible refine LeO.bind ?_ (fun _ => ?_))
      | exact ih0 _ _ _ _
      | exact ih1 _ _ _ _ _
      | exact LeO.none _
      | refine LeO.ite ?_ ?_
      | refine LeO.bind ?_ (fun _ => ?_)
theorem lexer_zzLines.mono : ∀ a0 k, LeO (lexer_zzLines.f k a0) (lexer_zzLines.f (k + 1) a0) := by
  intro a0 k
  obtain ⟨ih0, ih1⟩ := lexer_zzLines.mono_l k
  unfold lexer_zzLines.f
  repeat' first
      | (with_reducible exact ih0 _ _ _ _)
      | (with_reducible exact ih1 _ _ _ _ _)
      | (with_reducible exact LeO.refl _)
      | (with_reducible exact LeO.none _)
      | (with_reducible refine LeO.ite ?_ ?_)
      | (with_reducible refine LeO.bind ?_ (fun _ => ?_))
      | exact ih0 _ _ _ _
      | exact ih1 _ _ _ _ _
      | exact LeO.none _
      | refine LeO.ite ?_ ?_
      | refine LeO.bind ?_ (fun _ => ?_)
set_option maxHeartbeats 8000000 in
set_option maxRecDepth 100000 in
theorem lexer_zzLines.calls (k : Nat) (a0 : ByteArray) (r : List ByteArray) (w : World) (h : lexer_zzLines.f k a0 = some r) :
    Calls Try.prog 16 #[.string a0] w fun e w' => ∃ v0_ : Value, e = .returned (v0_) ∧ Kd.R Kd.string 9 w' w.heap.size (fun _ => True) v0_ r ∧ Below w.heap.size w w' := by
  have HB := Aside0.mk (Below.refl w.heap.size w)
  have H : (lexer_zzLines.l0 k a0 ([] : List ByteArray) 0 0) = some r := h
  clear h
  have H' := Aside0.mk H
  clear H
  go_enter Try.func16, Try.ntmps16
  go_wp2
  go_loopg [3, 4, 5] k (fun kq v3 v4 v5 w' => ∃ (x3_1 : List ByteArray) (x4_1 : Int) (x5_1 : Int), v4 = .int .i64 x4_1 ∧ v5 = .int .i64 x5_1 ∧ Aside0 (lexer_zzLines.l0 kq a0 x3_1 x4_1 x5_1 = some r) ∧ Aside0 (kq ≤ k) ∧ Aside0 (Kd.R Kd.string 9 w' w.heap.size (fun _ => True) v3 x3_1) ∧ Aside0 (Below w.heap.size w w'))
  case atStart => exact ⟨(([] : List ByteArray)), (0), (0), (by first | rfl | (simp; done) | (simp [*]; done)), (by first | rfl | (simp; done) | (simp [*]; done)), H', ⟨Nat.le_refl _⟩, ⟨by first | exact Kd.R_nil _ _ _ _ _ | exact Kd.N_nil _ _ _ _ _ | exact Kd.V_nil _ _ _ _ _ | exact Kd.Q_nil _ _ _ _ _ | exact Kd.S_nil _ _ _ _ _⟩, ⟨by repeat (first | (with_reducible first | exact HB.out | apply below_alloc | apply pw_below_drewN | apply below_drew1) | exact HB.out)⟩⟩
  case round =>
    clear H'
    try clear c1
    obtain ⟨x3_1, x4_1, x5_1, rfl, rfl, HA, HK1, HO_3, HB⟩ := hrel
    cases gk with
    | zero => exact absurd HA.out (by simp [lexer_zzLines.l0])
    | succ k1 =>
      have H := HA.out
      clear HA
      simp only [lexer_zzLines.l0] at H
      by_cases c2 : x5_1 < (a0.size : Int)
      · rw [if_pos c2] at H
        have c2b0 : decide (x5_1 < (a0.size : Int)) = true := decide_eq_true c2
        clear c2
        have HC3 := Aside0.mk H
        clear H
        go_upto_region 6 with (fail)
        go_cut [21] (fun v21 wc => ∃ (kq : Nat) (x21_2 : Bool), v21 = .bool x21_2 ∧ Aside0 (lexer_zzLines.j1 kq a0 x3_1 x4_1 x5_1 x21_2 = some r) ∧ Aside0 (kq ≤ k1) ∧ Aside0 (Kd.R Kd.string 9 wc w.heap.size (fun _ => True) u3 x3_1) ∧ Aside0 (Below w.heap.size w wc))
        case first =>
          have H := HC3.out
          clear HC3
          by_cases c4 : 0 ≤ x5_1
          · rw [if_pos c4] at H
            have c4b0 : decide (0 ≤ x5_1) = true := decide_eq_true c4
            clear c4
            (first | rw [c4b0] | (simp only [i64_w, i32_w]; rw [c4b0]) | skip)
            by_cases c6 : (bt a0 x5_1) = 13
            · rw [if_pos c6] at H
              have c6b0 : ((bt a0 x5_1) == 13) = true := beq_iff_eq.mpr c6
              have c6b1 : ((bt a0 x5_1) != 13) = false := bne_eq_false_iff_eq.mpr c6
              clear c6
              have H' := Aside0.mk H
              clear H
              have p5 : 0 ≤ (x5_1 : Int) := of_decide_eq_true (by first | (with_reducible assumption) | assumption)
              have q5 : x5_1 < (a0.size : Int) := of_decide_eq_true (by first | (with_reducible assumption) | assumption)
              have hx5 := bt_at a0 x5_1
              replace p5 := eq_true p5
              replace q5 := eq_true q5
              go_wp2
              go_meet
              case rel => exact ⟨_, (false), (by first | rfl | (simp; done) | (simp [*]; done)), H', ⟨by have := HK1.out; first | omega | exact Nat.le_refl _⟩, ⟨by (with_reducible repeat (first | apply Kd.R_alloc | apply Kd.R_drewN | apply Kd.R_drew)); exact HO_3.out⟩, ⟨by repeat (first | (with_reducible first | exact HB.out | apply below_alloc | apply pw_below_drewN | apply below_drew1) | exact HB.out)⟩⟩
            · rw [if_neg c6] at H
              have c6b0 : ((bt a0 x5_1) == 13) = false := beq_eq_false_iff_ne.mpr c6
              have c6b1 : ((bt a0 x5_1) != 13) = true := bne_iff_ne.mpr c6
              have H' := Aside0.mk H
              clear H
              have p5 : 0 ≤ (x5_1 : Int) := of_decide_eq_true (by first | (with_reducible assumption) | assumption)
              have q5 : x5_1 < (a0.size : Int) := of_decide_eq_true (by first | (with_reducible assumption) | assumption)
              have hx5 := bt_at a0 x5_1
              replace p5 := eq_true p5
              replace q5 := eq_true q5
              have p7 : 0 ≤ (x5_1 : Int) := of_decide_eq_true (by first | (with_reducible assumption) | assumption)
              have q7 : x5_1 < (a0.size : Int) := of_decide_eq_true (by first | (with_reducible assumption) | assumption)
              have hx7 := bt_at a0 x5_1
              replace p7 := eq_true p7
              replace q7 := eq_true q7
              go_wp2
              go_meet
              case rel => exact ⟨_, (((bt a0 x5_1) != 10)), (by first | rfl | (simp; done) | (simp [*]; done)), H', ⟨by have := HK1.out; first | omega | exact Nat.le_refl _⟩, ⟨by (with_reducible repeat (first | apply Kd.R_alloc | apply Kd.R_drewN | apply Kd.R_drew)); exact HO_3.out⟩, ⟨by repeat (first | (with_reducible first | exact HB.out | apply below_alloc | apply pw_below_drewN | apply below_drew1) | exact HB.out)⟩⟩
          · rw [if_neg c4] at H
            exact absurd H (by simp)
        case rest =>
          clear HC3
          try clear c1
          try clear c2
          try clear c2b0
          try clear p2
          try clear c4
          try clear c4b0
          try clear p5
          try clear q5
          try clear hx5
          try clear c6
          try clear c6b0
          try clear c6b1
          try clear p7
          try clear q7
          try clear hx7
          try clear p5
          try clear p7
          try clear q5
          try clear q7
          obtain ⟨kq, x21_2, rfl, HA, HJ2, HO_3, HB⟩ := hcut
          cases kq with
          | zero => exact absurd HA.out (by simp [lexer_zzLines.j1])
          | succ kj2 =>
            have H := HA.out
            clear HA
            simp only [lexer_zzLines.j1] at H
            by_cases c8 : x21_2 = true
            · subst c8
              have H1 : (lexer_zzLines.l0 kj2 a0 x3_1 x4_1 (wrap64 (x5_1 + 1))) = some r := by rw [if_pos rfl] at H; exact H
              clear H
              have H := H1
              clear H1
              have H' := Aside0.mk H
              clear H
              go_wp2
              go_roundg kj2
              case measure => have := HK1.out; have := HJ2.out; omega
              case rel => exact ⟨(x3_1), (x4_1), (wrap64 (x5_1 + 1)), (by first | rfl | (simp; done) | (simp [*]; done)), (by first | rfl | (simp; done) | (simp [*]; done)), H', ⟨by have := HK1.out; have := HJ2.out; omega⟩, ⟨by (with_reducible repeat (first | apply Kd.R_alloc | apply Kd.R_drewN | apply Kd.R_drew)); exact HO_3.out⟩, ⟨by repeat (first | (with_reducible first | exact HB.out | apply below_alloc | apply pw_below_drewN | apply below_drew1) | exact HB.out)⟩⟩
            · replace c8 := Bool.eq_false_iff.mpr c8
              subst c8
              have H1 : (if 0 ≤ x4_1 then (if x4_1 ≤ x5_1 then (if x5_1 ≤ (a0.size : Int) then (if x3_1.length < 8796093022208 then ((some (x3_1 ++ [a0.extract (x4_1 : Int).toNat (x5_1 : Int).toNat] : List ByteArray)).bind fun y129 => (if 0 ≤ x5_1 then (if x5_1 < (a0.size : Int) then (if (bt a0 x5_1) = 13 then (if (wrap64 (x5_1 + 1)) < (a0.size : Int) then (if 0 ≤ (wrap64 (x5_1 + 1)) then (if (bt a0 (wrap64 (x5_1 + 1))) = 10 then (lexer_zzLines.l0 kj2 a0 y129 (wrap64 ((wrap64 (x5_1 + 1)) + 1)) (wrap64 ((wrap64 (x5_1 + 1)) + 1))) else (lexer_zzLines.l0 kj2 a0 y129 (wrap64 (x5_1 + 1)) (wrap64 (x5_1 + 1)))) else (none)) else (lexer_zzLines.l0 kj2 a0 y129 (wrap64 (x5_1 + 1)) (wrap64 (x5_1 + 1)))) else (lexer_zzLines.l0 kj2 a0 y129 (wrap64 (x5_1 + 1)) (wrap64 (x5_1 + 1)))) else (none)) else (none))) else (none)) else (none)) else (none)) else (none)) = some r := by rw [if_neg (show ¬ (false = true) by decide)] at H; exact H
              clear H
              have H := H1
              clear H1
              by_cases c9 : 0 ≤ x4_1
              · rw [if_pos c9] at H
                have c9b0 := eq_true c9
                have c9b1 : decide (0 ≤ x4_1) = true := decide_eq_true c9
                clear c9
                by_cases c10 : x4_1 ≤ x5_1
                · rw [if_pos c10] at H
                  have c10b0 := eq_true c10
                  have c10b1 : decide (x4_1 ≤ x5_1) = true := decide_eq_true c10
                  clear c10
                  by_cases c11 : x5_1 ≤ (a0.size : Int)
                  · rw [if_pos c11] at H
                    have c11b0 := eq_true c11
                    have c11b1 : decide (x5_1 ≤ (a0.size : Int)) = true := decide_eq_true c11
                    clear c11
                    by_cases c12 : x3_1.length < 8796093022208
                    · rw [if_pos c12] at H
                      have LMc12 := Aside0.mk c12
                      clear c12
                      obtain ⟨y129, hy129⟩ : ∃ y_ : List ByteArray, y_ = (x3_1 ++ [a0.extract (x4_1 : Int).toNat (x5_1 : Int).toNat]) := ⟨_, rfl⟩
                      replace H : (if 0 ≤ x5_1 then (if x5_1 < (a0.size : Int) then (if (bt a0 x5_1) = 13 then (if (wrap64 (x5_1 + 1)) < (a0.size : Int) then (if 0 ≤ (wrap64 (x5_1 + 1)) then (if (bt a0 (wrap64 (x5_1 + 1))) = 10 then (lexer_zzLines.l0 kj2 a0 y129 (wrap64 ((wrap64 (x5_1 + 1)) + 1)) (wrap64 ((wrap64 (x5_1 + 1)) + 1))) else (lexer_zzLines.l0 kj2 a0 y129 (wrap64 (x5_1 + 1)) (wrap64 (x5_1 + 1)))) else (none)) else (lexer_zzLines.l0 kj2 a0 y129 (wrap64 (x5_1 + 1)) (wrap64 (x5_1 + 1)))) else (lexer_zzLines.l0 kj2 a0 y129 (wrap64 (x5_1 + 1)) (wrap64 (x5_1 + 1)))) else (none)) else (none)) = some r := by first | (rw [hy129]; with_reducible exact H) | (have H2_ := (Option.bind_some _ _).symm.trans H; rw [hy129]; with_reducible exact H2_) | (have H2_ := (Option.bind_some _ _).symm.trans H; with_reducible exact H2_) | with_reducible exact H | (rw [hy129]; exact H) | exact H
                      have Ny129 := Aside0.mk hy129
                      clear hy129
                      by_cases c13 : 0 ≤ x5_1
                      · rw [if_pos c13] at H
                        have c13b0 : decide (0 ≤ x5_1) = true := decide_eq_true c13
                        clear c13
                        by_cases c14 : x5_1 < (a0.size : Int)
                        · rw [if_pos c14] at H
                          have c14b0 : decide (x5_1 < (a0.size : Int)) = true := decide_eq_true c14
                          clear c14
                          by_cases c16 : (bt a0 x5_1) = 13
                          · rw [if_pos c16] at H
                            have c16b0 : ((bt a0 x5_1) == 13) = true := beq_iff_eq.mpr c16
                            have c16b1 : ((bt a0 x5_1) != 13) = false := bne_eq_false_iff_eq.mpr c16
                            clear c16
                            by_cases c17 : (wrap64 (x5_1 + 1)) < (a0.size : Int)
                            · rw [if_pos c17] at H
                              have c17b0 : decide ((wrap64 (x5_1 + 1)) < (a0.size : Int)) = true := decide_eq_true c17
                              clear c17
                              obtain ⟨ji18, hji18⟩ : ∃ j_ : Int, (wrap64 (x5_1 + 1)) = j_ := ⟨_, rfl⟩
                              replace H : (if 0 ≤ (ji18) then (if (bt a0 (ji18)) = 10 then (lexer_zzLines.l0 kj2 a0 y129 (wrap64 ((ji18) + 1)) (wrap64 ((ji18) + 1))) else (lexer_zzLines.l0 kj2 a0 y129 ji18 ji18)) else (none)) = some r := by first | (rw [hji18] at H; exact H) | (simp only [hji18] at H ⊢; exact H)
                              (try rw [hji18] at c17b0)
                              have hji18w : (IntKind.i64.wrap (x5_1 + 1)) = ji18 := (i64_w _).trans hji18
                              by_cases c19 : 0 ≤ (ji18)
                              · rw [if_pos c19] at H
                                have c19b0 : decide (0 ≤ (ji18)) = true := decide_eq_true c19
                                clear c19
                                by_cases c21 : (bt a0 (ji18)) = 10
                                · rw [if_pos c21] at H
                                  have c21b0 : ((bt a0 (ji18)) == 10) = true := beq_iff_eq.mpr c21
                                  have c21b1 : ((bt a0 (ji18)) != 10) = false := bne_eq_false_iff_eq.mpr c21
                                  clear c21
                                  have H' := Aside0.mk H
                                  clear H
                                  go_wp2_with (first | ((with_reducible refine gate_builtin (b := .append) (xs := #[.tmp 22, .tmp 27]) rfl ?_); (try (refine gate_guard (by rfl) ?_; dsimp only)); at_builtin; refine Kd.R_append Kd.string (w0 := w) w.heap.size rfl (.tmp 22) (.tmp 27) 24 9 (.string ⟨#[]⟩) 16 rfl Try.underlying24 info9 rfl (by decide) (by omega) u3 x3_1 (a0.extract (x4_1 : Int).toNat (x5_1 : Int).toNat) [.string (a0.extract (x4_1 : Int).toNat (x5_1 : Int).toNat)] (fun _ => True) (fun _ => False) rfl rfl ?aP (fun _ hk => hk.elim) ?aF ?aO ?aB ?aS ?aL ?_; (case aP => exact rfl); (case aB => exact (by repeat (first | (with_reducible first | exact HB.out | apply below_alloc | apply pw_below_drewN | apply below_drew1) | exact HB.out))); (case aF => exact (fun _ _ => trivial)); (case aO => exact (by (with_reducible repeat (first | apply Kd.R_alloc | apply Kd.R_drewN | apply Kd.R_drew)); exact HO_3.out)); (case aS => exact (below_size (by repeat (first | (with_reducible first | exact HB.out | apply below_alloc | apply pw_below_drewN | apply below_drew1) | exact HB.out)))); (case aL => have := LMc12.out; omega); intro v130 w22 ho hb hg hat; rw [← Ny129.out] at ho; have n0_ := Aside0.mk (hb); have n1_ := Aside0.mk (ho); clear HB; clear HO_3; have HB := n0_; have HO131 := n1_; clear n0_ n1_; clear ho hb hg hat; have p15 : 0 ≤ (x5_1 : Int) := of_decide_eq_true (by first | (with_reducible assumption) | assumption); have q15 : x5_1 < (a0.size : Int) := of_decide_eq_true (by first | (with_reducible assumption) | assumption); have hx15 := bt_at a0 x5_1; replace p15 := eq_true p15; replace q15 := eq_true q15; have p20 : 0 ≤ ((ji18) : Int) := of_decide_eq_true (by first | (with_reducible assumption) | assumption); have q20 : (ji18) < (a0.size : Int) := of_decide_eq_true (by first | (with_reducible assumption) | assumption); have hx20 := bt_at a0 (ji18); replace p20 := eq_true p20; replace q20 := eq_true q20))
                                  go_roundg kj2
                                  case measure => have := HK1.out; have := HJ2.out; omega
                                  case rel => exact ⟨(y129), (wrap64 ((ji18) + 1)), (wrap64 ((ji18) + 1)), (by first | rfl | (simp; done) | (simp only [← hji18] <;> (first | rfl | simp)) | (simp [*]; done)), (by first | rfl | (simp; done) | (simp only [← hji18] <;> (first | rfl | simp)) | (simp [*]; done)), H', ⟨by have := HK1.out; have := HJ2.out; omega⟩, ⟨by (with_reducible repeat (first | apply Kd.R_alloc | apply Kd.R_drewN | apply Kd.R_drew)); exact HO131.out⟩, ⟨by repeat (first | (with_reducible first | exact HB.out | apply below_alloc | apply pw_below_drewN | apply below_drew1) | exact HB.out)⟩⟩
                                · rw [if_neg c21] at H
                                  have c21b0 : ((bt a0 (ji18)) == 10) = false := beq_eq_false_iff_ne.mpr c21
                                  have c21b1 : ((bt a0 (ji18)) != 10) = true := bne_iff_ne.mpr c21
                                  have H' := Aside0.mk H
                                  clear H
                                  go_wp2_with (first | ((with_reducible refine gate_builtin (b := .append) (xs := #[.tmp 22, .tmp 27]) rfl ?_); (try (refine gate_guard (by rfl) ?_; dsimp only)); at_builtin; refine Kd.R_append Kd.string (w0 := w) w.heap.size rfl (.tmp 22) (.tmp 27) 24 9 (.string ⟨#[]⟩) 16 rfl Try.underlying24 info9 rfl (by decide) (by omega) u3 x3_1 (a0.extract (x4_1 : Int).toNat (x5_1 : Int).toNat) [.string (a0.extract (x4_1 : Int).toNat (x5_1 : Int).toNat)] (fun _ => True) (fun _ => False) rfl rfl ?aP (fun _ hk => hk.elim) ?aF ?aO ?aB ?aS ?aL ?_; (case aP => exact rfl); (case aB => exact (by repeat (first | (with_reducible first | exact HB.out | apply below_alloc | apply pw_below_drewN | apply below_drew1) | exact HB.out))); (case aF => exact (fun _ _ => trivial)); (case aO => exact (by (with_reducible repeat (first | apply Kd.R_alloc | apply Kd.R_drewN | apply Kd.R_drew)); exact HO_3.out)); (case aS => exact (below_size (by repeat (first | (with_reducible first | exact HB.out | apply below_alloc | apply pw_below_drewN | apply below_drew1) | exact HB.out)))); (case aL => have := LMc12.out; omega); intro v130 w23 ho hb hg hat; rw [← Ny129.out] at ho; have n0_ := Aside0.mk (hb); have n1_ := Aside0.mk (ho); clear HB; clear HO_3; have HB := n0_; have HO131 := n1_; clear n0_ n1_; clear ho hb hg hat; have p15 : 0 ≤ (x5_1 : Int) := of_decide_eq_true (by first | (with_reducible assumption) | assumption); have q15 : x5_1 < (a0.size : Int) := of_decide_eq_true (by first | (with_reducible assumption) | assumption); have hx15 := bt_at a0 x5_1; replace p15 := eq_true p15; replace q15 := eq_true q15; have p20 : 0 ≤ ((ji18) : Int) := of_decide_eq_true (by first | (with_reducible assumption) | assumption); have q20 : (ji18) < (a0.size : Int) := of_decide_eq_true (by first | (with_reducible assumption) | assumption); have hx20 := bt_at a0 (ji18); replace p20 := eq_true p20; replace q20 := eq_true q20))
                                  go_roundg kj2
                                  case measure => have := HK1.out; have := HJ2.out; omega
                                  case rel => exact ⟨(y129), (ji18), (ji18), (by first | rfl | (simp; done) | (simp only [← hji18] <;> (first | rfl | simp)) | (simp [*]; done)), (by first | rfl | (simp; done) | (simp only [← hji18] <;> (first | rfl | simp)) | (simp [*]; done)), H', ⟨by have := HK1.out; have := HJ2.out; omega⟩, ⟨by (with_reducible repeat (first | apply Kd.R_alloc | apply Kd.R_drewN | apply Kd.R_drew)); exact HO131.out⟩, ⟨by repeat (first | (with_reducible first | exact HB.out | apply below_alloc | apply pw_below_drewN | apply below_drew1) | exact HB.out)⟩⟩
                              · rw [if_neg c19] at H
                                exact absurd H (by simp)
                            · rw [if_neg c17] at H
                              have c17b0 : decide ((wrap64 (x5_1 + 1)) < (a0.size : Int)) = false := decide_eq_false c17
                              clear c17
                              have H' := Aside0.mk H
                              clear H
                              go_wp2_with (first | ((with_reducible refine gate_builtin (b := .append) (xs := #[.tmp 22, .tmp 27]) rfl ?_); (try (refine gate_guard (by rfl) ?_; dsimp only)); at_builtin; refine Kd.R_append Kd.string (w0 := w) w.heap.size rfl (.tmp 22) (.tmp 27) 24 9 (.string ⟨#[]⟩) 16 rfl Try.underlying24 info9 rfl (by decide) (by omega) u3 x3_1 (a0.extract (x4_1 : Int).toNat (x5_1 : Int).toNat) [.string (a0.extract (x4_1 : Int).toNat (x5_1 : Int).toNat)] (fun _ => True) (fun _ => False) rfl rfl ?aP (fun _ hk => hk.elim) ?aF ?aO ?aB ?aS ?aL ?_; (case aP => exact rfl); (case aB => exact (by repeat (first | (with_reducible first | exact HB.out | apply below_alloc | apply pw_below_drewN | apply below_drew1) | exact HB.out))); (case aF => exact (fun _ _ => trivial)); (case aO => exact (by (with_reducible repeat (first | apply Kd.R_alloc | apply Kd.R_drewN | apply Kd.R_drew)); exact HO_3.out)); (case aS => exact (below_size (by repeat (first | (with_reducible first | exact HB.out | apply below_alloc | apply pw_below_drewN | apply below_drew1) | exact HB.out)))); (case aL => have := LMc12.out; omega); intro v130 w24 ho hb hg hat; rw [← Ny129.out] at ho; have n0_ := Aside0.mk (hb); have n1_ := Aside0.mk (ho); clear HB; clear HO_3; have HB := n0_; have HO131 := n1_; clear n0_ n1_; clear ho hb hg hat; have p15 : 0 ≤ (x5_1 : Int) := of_decide_eq_true (by first | (with_reducible assumption) | assumption); have q15 : x5_1 < (a0.size : Int) := of_decide_eq_true (by first | (with_reducible assumption) | assumption); have hx15 := bt_at a0 x5_1; replace p15 := eq_true p15; replace q15 := eq_true q15))
                              go_roundg kj2
                              case measure => have := HK1.out; have := HJ2.out; omega
                              case rel => exact ⟨(y129), (wrap64 (x5_1 + 1)), (wrap64 (x5_1 + 1)), (by first | rfl | (simp; done) | (simp [*]; done)), (by first | rfl | (simp; done) | (simp [*]; done)), H', ⟨by have := HK1.out; have := HJ2.out; omega⟩, ⟨by (with_reducible repeat (first | apply Kd.R_alloc | apply Kd.R_drewN | apply Kd.R_drew)); exact HO131.out⟩, ⟨by repeat (first | (with_reducible first | exact HB.out | apply below_alloc | apply pw_below_drewN | apply below_drew1) | exact HB.out)⟩⟩
                          · rw [if_neg c16] at H
                            have c16b0 : ((bt a0 x5_1) == 13) = false := beq_eq_false_iff_ne.mpr c16
                            have c16b1 : ((bt a0 x5_1) != 13) = true := bne_iff_ne.mpr c16
                            have H' := Aside0.mk H
                            clear H
                            go_wp2_with (first | ((with_reducible refine gate_builtin (b := .append) (xs := #[.tmp 22, .tmp 27]) rfl ?_); (try (refine gate_guard (by rfl) ?_; dsimp only)); at_builtin; refine Kd.R_append Kd.string (w0 := w) w.heap.size rfl (.tmp 22) (.tmp 27) 24 9 (.string ⟨#[]⟩) 16 rfl Try.underlying24 info9 rfl (by decide) (by omega) u3 x3_1 (a0.extract (x4_1 : Int).toNat (x5_1 : Int).toNat) [.string (a0.extract (x4_1 : Int).toNat (x5_1 : Int).toNat)] (fun _ => True) (fun _ => False) rfl rfl ?aP (fun _ hk => hk.elim) ?aF ?aO ?aB ?aS ?aL ?_; (case aP => exact rfl); (case aB => exact (by repeat (first | (with_reducible first | exact HB.out | apply below_alloc | apply pw_below_drewN | apply below_drew1) | exact HB.out))); (case aF => exact (fun _ _ => trivial)); (case aO => exact (by (with_reducible repeat (first | apply Kd.R_alloc | apply Kd.R_drewN | apply Kd.R_drew)); exact HO_3.out)); (case aS => exact (below_size (by repeat (first | (with_reducible first | exact HB.out | apply below_alloc | apply pw_below_drewN | apply below_drew1) | exact HB.out)))); (case aL => have := LMc12.out; omega); intro v130 w25 ho hb hg hat; rw [← Ny129.out] at ho; have n0_ := Aside0.mk (hb); have n1_ := Aside0.mk (ho); clear HB; clear HO_3; have HB := n0_; have HO131 := n1_; clear n0_ n1_; clear ho hb hg hat; have p15 : 0 ≤ (x5_1 : Int) := of_decide_eq_true (by first | (with_reducible assumption) | assumption); have q15 : x5_1 < (a0.size : Int) := of_decide_eq_true (by first | (with_reducible assumption) | assumption); have hx15 := bt_at a0 x5_1; replace p15 := eq_true p15; replace q15 := eq_true q15))
                            go_roundg kj2
                            case measure => have := HK1.out; have := HJ2.out; omega
                            case rel => exact ⟨(y129), (wrap64 (x5_1 + 1)), (wrap64 (x5_1 + 1)), (by first | rfl | (simp; done) | (simp [*]; done)), (by first | rfl | (simp; done) | (simp [*]; done)), H', ⟨by have := HK1.out; have := HJ2.out; omega⟩, ⟨by (with_reducible repeat (first | apply Kd.R_alloc | apply Kd.R_drewN | apply Kd.R_drew)); exact HO131.out⟩, ⟨by repeat (first | (with_reducible first | exact HB.out | apply below_alloc | apply pw_below_drewN | apply below_drew1) | exact HB.out)⟩⟩
                        · rw [if_neg c14] at H
                          exact absurd H (by simp)
                      · rw [if_neg c13] at H
                        exact absurd H (by simp)
                    · rw [if_neg c12] at H
                      exact absurd H (by simp)
                  · rw [if_neg c11] at H
                    exact absurd H (by simp)
                · rw [if_neg c10] at H
                  exact absurd H (by simp)
              · rw [if_neg c9] at H
                exact absurd H (by simp)
      · rw [if_neg c2] at H
        have c2b0 : decide (x5_1 < (a0.size : Int)) = false := decide_eq_false c2
        clear c2
        by_cases c26 : 0 ≤ x4_1
        · rw [if_pos c26] at H
          have c26b0 := eq_true c26
          have c26b1 : decide (0 ≤ x4_1) = true := decide_eq_true c26
          clear c26
          by_cases c27 : x4_1 ≤ (a0.size : Int)
          · rw [if_pos c27] at H
            have c27b0 := eq_true c27
            have c27b1 : decide (x4_1 ≤ (a0.size : Int)) = true := decide_eq_true c27
            clear c27
            by_cases c28 : x3_1.length < 8796093022208
            · rw [if_pos c28] at H
              have LMc28 := Aside0.mk c28
              clear c28
              obtain ⟨y126, hy126⟩ : ∃ y_ : List ByteArray, y_ = (x3_1 ++ [a0.extract (x4_1 : Int).toNat a0.size]) := ⟨_, rfl⟩
              replace H : (some y126) = some r := by first | (rw [hy126]; with_reducible exact H) | (have H2_ := (Option.bind_some _ _).symm.trans H; rw [hy126]; with_reducible exact H2_) | (have H2_ := (Option.bind_some _ _).symm.trans H; with_reducible exact H2_) | with_reducible exact H | (rw [hy126]; exact H) | exact H
              have Ny126 := Aside0.mk hy126
              clear hy126
              obtain rfl := Option.some.inj H
              go_wp2_with (first | ((with_reducible refine gate_builtin (b := .append) (xs := #[.tmp 51, .tmp 55]) rfl ?_); (try (refine gate_guard (by rfl) ?_; dsimp only)); at_builtin; refine Kd.R_append Kd.string (w0 := w) w.heap.size rfl (.tmp 51) (.tmp 55) 24 9 (.string ⟨#[]⟩) 16 rfl Try.underlying24 info9 rfl (by decide) (by omega) u3 x3_1 (a0.extract (x4_1 : Int).toNat a0.size) [.string (a0.extract (x4_1 : Int).toNat a0.size)] (fun _ => True) (fun _ => False) rfl rfl ?aP (fun _ hk => hk.elim) ?aF ?aO ?aB ?aS ?aL ?_; (case aP => exact rfl); (case aB => exact (by repeat (first | (with_reducible first | exact HB.out | apply below_alloc | apply pw_below_drewN | apply below_drew1) | exact HB.out))); (case aF => exact (fun _ _ => trivial)); (case aO => exact (by (with_reducible repeat (first | apply Kd.R_alloc | apply Kd.R_drewN | apply Kd.R_drew)); exact HO_3.out)); (case aS => exact (below_size (by repeat (first | (with_reducible first | exact HB.out | apply below_alloc | apply pw_below_drewN | apply below_drew1) | exact HB.out)))); (case aL => have := LMc28.out; omega); intro v127 w29 ho hb hg hat; rw [← Ny126.out] at ho; have n0_ := Aside0.mk (hb); have n1_ := Aside0.mk (ho); clear HB; clear HO_3; have HB := n0_; have HO128 := n1_; clear n0_ n1_; clear ho hb hg hat))
              go_ret
              exact ⟨_, by first | rfl | (simp [errW_none, errW_some] <;> rfl) | (simp [*, errW_none, errW_some] <;> rfl), by (with_reducible repeat (first | apply Kd.R_alloc | apply Kd.R_drewN | apply Kd.R_drew)); exact HO128.out, by repeat (first | (with_reducible first | exact HB.out | apply below_alloc | apply pw_below_drewN | apply below_drew1) | exact HB.out)⟩
            · rw [if_neg c28] at H
              exact absurd H (by simp)
          · rw [if_neg c27] at H
            exact absurd H (by simp)
        · rw [if_neg c26] at H
          exact absurd H (by simp)

-- taken as given: function 17 (lexer_leadingWhitespaceLen)

/-! ### lexer_lineIsBlank: function 18 -/
def lexer_lineIsBlank.f (a0 : ByteArray) : Option (Bool) := (lexer_leadingWhitespaceLen.f a0).bind fun t132 => (some (t132 == (a0.size : Int)))
set_option maxHeartbeats 8000000 in
set_option maxRecDepth 100000 in
theorem lexer_lineIsBlank.calls (a0 : ByteArray) (r : Bool) (w : World) (h : lexer_lineIsBlank.f a0 = some r) :
    Calls Try.prog 18 #[.string a0] w fun e w' => e = .returned (.bool r) ∧ Below w.heap.size w w' := by
  have HB := Aside0.mk (Below.refl w.heap.size w)
  have H : ((lexer_leadingWhitespaceLen.f a0).bind fun t132 => (some (t132 == (a0.size : Int)))) = some r := h
  clear h
  replace H := Option.bind_eq_some_iff.mp H
  obtain ⟨t132, A20, H⟩ := H
  replace H : (some (t132 == (a0.size : Int))) = some r := H
  have A2 := Aside0.mk A20
  clear A20
  obtain rfl := Option.some.inj H
  go_enter Try.func18, Try.ntmps18
  go_wp2_with (first | ((with_reducible refine gate_callee (f := 17) rfl ?_); refine goesL_ (some 4) rfl rfl Try.func17 (by kernel_rfl) rfl #[.string a0] rfl (by (try simp only [List.map_toArray, List.map_cons, List.map_nil]); first | done | rfl | (simp only [List.length_drop, List.length_take]; rfl)) ?_; (with_reducible refine (lexer_leadingWhitespaceLen.calls a0 t132 _ A2.out).mono ?_); rintro e w3 ⟨rfl, hb⟩; refine ⟨_, rfl, ?_⟩; have n0_ := Aside0.mk (below_step (by repeat (first | (with_reducible first | exact HB.out | apply below_alloc | apply pw_below_drewN | apply below_drew1) | exact HB.out)) hb); clear HB; have HB := n0_; clear n0_; (try clear hb); (try clear hb2); (try clear hk); (try clear hi)))
  go_ret
  exact ⟨by first | rfl | (simp [errW_none, errW_some] <;> rfl) | (simp [*, errW_none, errW_some] <;> rfl), by repeat (first | (with_reducible first | exact HB.out | apply below_alloc | apply pw_below_drewN | apply below_drew1) | exact HB.out)⟩

-- taken as given: function 19 (strings_Join)

-- NOT PRINTED: function 15 (lexer_blockStringValue)

-- NOT PRINTED: function 11 (lexer_BlockValue)

-- NOT PRINTED: function 6 (impl_BlockValue)

end Go.Proofs.Ytknbpibjjhcdiad.PFnBlockTwice
