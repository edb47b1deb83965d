-- written by a program of this session out of the translation (printext.py); not trusted: Lean checks it
import Derived.Test.YtknbpibjjhcdiacRFnBlockx0
namespace Go.Proofs.Ytknbpibjjhcdiac.PFnBlock.R
open Go.RowKit Go.Proofs.YtknbpibjjhcdiacW.PrintWords Go.Proofs.YtknbpibjjhcdiacW.PrintLast Go.Proofs.YtknbpibjjhcdiacW.PrintMore
attribute [local go_sem] max2_int min2_int max_two min_two max_three min_three max_four min_four   -- for this text's walks alone
set_option linter.unusedVariables false
set_option linter.unusedSimpArgs false

-- taken as given: function 4 (laws_zzFits8)

-- taken as given: function 5 (laws_pieces9)

-- taken as given: function 7 (printer_Block)

/-! ### impl_Block: function 6 -/
def impl_Block.f (k : Nat) (l0 : List ByteArray) : Option (ByteArray) := (printer_Block.f k l0).bind fun t101 => (some t101)
theorem impl_Block.mono : ∀ a0 k, LeO (impl_Block.f k a0) (impl_Block.f (k + 1) a0) := by
  intro a0 k
  unfold impl_Block.f
  repeat' first
      | (with_reducible exact printer_Block.mono _ _)
      | (with_reducible exact LeO.refl _)
      | (with_reducible exact LeO.none _)
      | (with_reducible refine LeO.ite ?_ ?_)
      | (with_reducible refine LeO.bind ?_ (fun _ => ?_))
      | exact printer_Block.mono _ _
      | exact LeO.none _
      | refine LeO.ite ?_ ?_
      | refine LeO.bind ?_ (fun _ => ?_)
set_option maxHeartbeats 8000000 in
set_option maxRecDepth 100000 in
theorem impl_Block.calls (k : Nat) (A0 : Option Addr) (c0 : Nat) (l0 : List ByteArray) (r : ByteArray) (w : World) (hr0 : Kd.C Kd.string w A0 l0.length l0) (hc0 : l0.length ≤ c0) (h : impl_Block.f k l0 = some r) :
    Calls Try.prog 6 #[.slice A0 l0.length c0] w fun e w' => e = .returned (.string r) ∧ Below w.heap.size w w' := by
  have HR0 := Aside0.mk hr0
  have HC0 := Aside0.mk hc0
  clear hr0 hc0
  have HB := Aside0.mk (Below.refl w.heap.size w)
  have H : ((printer_Block.f k l0).bind fun t101 => (some t101)) = some r := h
  clear h
  replace H := Option.bind_eq_some_iff.mp H
  obtain ⟨t101, A20, H⟩ := H
  replace H : (some t101) = some r := H
  have A2 := Aside0.mk A20
  clear A20
  obtain rfl := Option.some.inj H
  go_enter Try.func6, Try.ntmps6
  go_wp2_with (first | ((with_reducible refine gate_callee (f := 7) rfl ?_); refine goesL_ (some 4) rfl rfl Try.func7 (by kernel_rfl) rfl #[.slice A0 l0.length c0] rfl (by (try simp only [List.map_toArray, List.map_cons, List.map_nil]); first | done | rfl | (simp only [List.length_drop, List.length_take]; rfl)) ?_; (with_reducible refine (printer_Block.calls k _ _ l0 t101 _ ?side1 ?side2 A2.out).mono ?_); (case side1 => repeat (first | exact HR0.out | (with_reducible refine Kd.C_alloc ?_ _) | (with_reducible refine Kd.C_drewN ?_ _) | (with_reducible refine Kd.C_drew ?_))); (case side2 => exact HC0.out); rintro e w3 ⟨rfl, hb⟩; refine ⟨_, rfl, ?_⟩; have n0_ := Aside0.mk (below_step (by repeat (first | (with_reducible first | exact HB.out | apply below_alloc | apply pw_below_drewN | apply below_drew1) | exact HB.out)) hb); clear HB; have HB := n0_; clear n0_; (try clear hb); (try clear hb2); (try clear hk); (try clear hi)))
  go_ret
  exact ⟨by first | rfl | (simp [errW_none, errW_some] <;> rfl) | (simp [*, errW_none, errW_some] <;> rfl), by repeat (first | (with_reducible first | exact HB.out | apply below_alloc | apply pw_below_drewN | apply below_drew1) | exact HB.out)⟩

/-! ### laws_FnBlock: function 3 -/
mutual
def laws_FnBlock.l0 : Nat → List ByteArray → ByteArray → Int → Option (Bool)
  | 0, _, _, _ => none
  | k + 1, x0, x3, x4 => if x4 < (x0.length : Int) then (if 0 ≤ x4 then (if (rdOf ByteArray.empty x0 x4).toList = ([] : List UInt8) then (some true) else (if x3.size + 3 ≤ 9223372036854775807 then (laws_FnBlock.l1 k x0 (x3 ++ (⟨#[10, 32, 32]⟩ : ByteArray)) x4 0) else (none))) else (none)) else (if (x0.length : Int) > 0 then (if x3.size + 1 ≤ 9223372036854775807 then ((impl_Block.f k x0).bind fun t104 => (if (x3 ++ (⟨#[10]⟩ : ByteArray)).size + 1 ≤ 9223372036854775807 then (some (t104.toList == ((x3 ++ (⟨#[10]⟩ : ByteArray)) ++ (⟨#[125]⟩ : ByteArray)).toList)) else (none))) else (none)) else ((impl_Block.f k x0).bind fun t105 => (if x3.size + 1 ≤ 9223372036854775807 then (some (t105.toList == (x3 ++ (⟨#[125]⟩ : ByteArray)).toList)) else (none))))
def laws_FnBlock.l1 : Nat → List ByteArray → ByteArray → Int → Int → Option (Bool)
  | 0, _, _, _, _ => none
  | k + 1, x0, x3, x4, x5 => if 0 ≤ x4 then (if x4 < (x0.length : Int) then (if x5 < ((rdOf ByteArray.empty x0 x4).size : Int) then (if 0 ≤ x5 then (if x5 ≤ (wrap64 (x5 + 1)) then (if (wrap64 (x5 + 1)) ≤ ((rdOf ByteArray.empty x0 x4).size : Int) then (if x3.size + ((rdOf ByteArray.empty x0 x4).extract (x5 : Int).toNat ((wrap64 (x5 + 1)) : Int).toNat).size ≤ 9223372036854775807 then (if (bt (rdOf ByteArray.empty x0 x4) x5) = 10 then (if (x3 ++ ((rdOf ByteArray.empty x0 x4).extract (x5 : Int).toNat ((wrap64 (x5 + 1)) : Int).toNat)).size + 2 ≤ 9223372036854775807 then (laws_FnBlock.l1 k x0 ((x3 ++ ((rdOf ByteArray.empty x0 x4).extract (x5 : Int).toNat ((wrap64 (x5 + 1)) : Int).toNat)) ++ (⟨#[32, 32]⟩ : ByteArray)) x4 (wrap64 (x5 + 1))) else (none)) else (laws_FnBlock.l1 k x0 (x3 ++ ((rdOf ByteArray.empty x0 x4).extract (x5 : Int).toNat ((wrap64 (x5 + 1)) : Int).toNat)) x4 (wrap64 (x5 + 1)))) else (none)) else (none)) else (none)) else (none)) else (laws_FnBlock.l0 k x0 x3 (wrap64 (x4 + 1)))) else (none)) else (none)
end
def laws_FnBlock.f (k : Nat) (l0 : List ByteArray) : Option (Bool) := (laws_zzFits8.f k l0).bind fun t102 => (if t102 = true then ((laws_pieces9.f k l0).bind fun t103 => (if t103 = true then (laws_FnBlock.l0 k l0 (⟨#[123]⟩ : ByteArray) 0) else (some true))) else (some true))
theorem laws_FnBlock.mono_l : ∀ k, (∀ y0 y1 y2, LeO (laws_FnBlock.l0 k y0 y1 y2) (laws_FnBlock.l0 (k + 1) y0 y1 y2)) ∧ (∀ y0 y1 y2 y3, LeO (laws_FnBlock.l1 k y0 y1 y2 y3) (laws_FnBlock.l1 (k + 1) y0 y1 y2 y3))
  | 0 => ⟨fun _ _ _ r h => by simp [laws_FnBlock.l0] at h, fun _ _ _ _ r h => by simp [laws_FnBlock.l1] at h⟩
  | k + 1 => by
    obtain ⟨ih0, ih1⟩ := laws_FnBlock.mono_l k
    refine ⟨?_, ?_⟩
    · intro y0 y1 y2
      unfold laws_FnBlock.l0
      repeat' first
      | (with_reducible exact ih0 _ _ _)
      | (with_reducible exact ih1 _ _ _ _)
      | (with_reducible exact impl_Block.mono _ _)
      | (with_reducible exact laws_pieces9.mono _ _)
      | (with_reducible exact laws_zzFits8.mono _ _)
      | (with_reducible exact LeO.refl _)
      | (with_reducible exact LeO.none _)
      | (with_reducible refine LeO.ite ?_ ?_)
      | (with_reducible refine LeO.bind ?_ (fun _ => ?_))
      | exact ih0 _ _ _
      | exact ih1 _ _ _ _
      | exact impl_Block.mono _ _
      | exact laws_pieces9.mono _ _
      | exact laws_zzFits8.mono _ _
      | exact LeO.none _
      | refine LeO.ite ?_ ?_
      | refine LeO.bind ?_ (fun _ => ?_)
    · intro y0 y1 y2 y3
      unfold laws_FnBlock.l1
      repeat' first
      | (with_reducible exact ih0 _ _ _)
      | (with_reducible exact ih1 _ _ _ _)
      | (with_reducible exact impl_Block.mono _ _)
      | (with_reducible exact laws_pieces9.mono _ _)
      | (with_reducible exact laws_zzFits8.mono _ _)
      | (with_reducible exact LeO.refl _)
      | (with_reducible exact LeO.none _)
      | (with_reducible refine LeO.ite ?_ ?_)
      | (with_reducible refine LeO.bind ?_ (fun _ => ?_))
      | exact ih0 _ _ _
      | exact ih1 _ _ _ _
      | exact impl_Block.mono _ _
      | exact laws_pieces9.mono _ _
      | exact laws_zzFits8.mono _ _
      | exact LeO.none _
      | refine LeO.ite ?_ ?_
      | refine LeO.bind ?_ (fun _ => ?_)
theorem laws_FnBlock.mono : ∀ a0 k, LeO (laws_FnBlock.f k a0) (laws_FnBlock.f (k + 1) a0) := by
  intro a0 k
  obtain ⟨ih0, ih1⟩ := laws_FnBlock.mono_l k
  unfold laws_FnBlock.f
  repeat' first
      | (with_reducible exact ih0 _ _ _)
      | (with_reducible exact ih1 _ _ _ _)
      | (with_reducible exact impl_Block.mono _ _)
      | (with_reducible exact laws_pieces9.mono _ _)
      | (with_reducible exact laws_zzFits8.mono _ _)
      | (with_reducible exact LeO.refl _)
      | (with_reducible exact LeO.none _)
      | (with_reducible refine LeO.ite ?_ ?_)
      | (with_reducible refine LeO.bind ?_ (fun _ => ?_))
      | exact ih0 _ _ _
      | exact ih1 _ _ _ _
      | exact impl_Block.mono _ _
      | exact laws_pieces9.mono _ _
      | exact laws_zzFits8.mono _ _
      | exact LeO.none _
      | refine LeO.ite ?_ ?_
      | refine LeO.bind ?_ (fun _ => ?_)
set_option maxHeartbeats 8000000 in
set_option maxRecDepth 100000 in
theorem laws_FnBlock.calls (k : Nat) (A0 : Option Addr) (c0 : Nat) (l0 : List ByteArray) (r : Bool) (w : World) (hr0 : Kd.C Kd.string w A0 l0.length l0) (hc0 : l0.length ≤ c0) (h : laws_FnBlock.f k l0 = some r) :
    Calls Try.prog 3 #[.slice A0 l0.length c0] w fun e w' => e = .returned (.bool r) ∧ Below w.heap.size w w' := by
  have HR0 := Aside0.mk hr0
  have HC0 := Aside0.mk hc0
  clear hr0 hc0
  have HB := Aside0.mk (Below.refl w.heap.size w)
  have H : ((laws_zzFits8.f k l0).bind fun t102 => (if t102 = true then ((laws_pieces9.f k l0).bind fun t103 => (if t103 = true then (laws_FnBlock.l0 k l0 (⟨#[123]⟩ : ByteArray) 0) else (some true))) else (some true))) = some r := h
  clear h
  replace H := Option.bind_eq_some_iff.mp H
  obtain ⟨t102, A20, H⟩ := H
  replace H : (if t102 = true then ((laws_pieces9.f k l0).bind fun t103 => (if t103 = true then (laws_FnBlock.l0 k l0 (⟨#[123]⟩ : ByteArray) 0) else (some true))) else (some true)) = some r := H
  have A2 := Aside0.mk A20
  clear A20
  by_cases c3 : t102 = true
  · subst c3
    have H1 : ((laws_pieces9.f k l0).bind fun t103 => (if t103 = true then (laws_FnBlock.l0 k l0 (⟨#[123]⟩ : ByteArray) 0) else (some true))) = some r := by rw [if_pos rfl] at H; exact H
    clear H
    have H := H1
    clear H1
    replace H := Option.bind_eq_some_iff.mp H
    obtain ⟨t103, A40, H⟩ := H
    replace H : (if t103 = true then (laws_FnBlock.l0 k l0 (⟨#[123]⟩ : ByteArray) 0) else (some true)) = some r := H
    have A4 := Aside0.mk A40
    clear A40
    by_cases c5 : t103 = true
    · subst c5
      have H1 : (laws_FnBlock.l0 k l0 (⟨#[123]⟩ : ByteArray) 0) = some r := by rw [if_pos rfl] at H; exact H
      clear H
      have H := H1
      clear H1
      have H' := Aside0.mk H
      clear H
      go_enter Try.func3, Try.ntmps3
      go_wp2_with (first | ((with_reducible refine gate_callee (f := 4) rfl ?_); refine goesL_ (some 7) rfl rfl Try.func4 (by kernel_rfl) rfl #[.slice A0 l0.length c0] rfl (by (try simp only [List.map_toArray, List.map_cons, List.map_nil]); first | done | rfl | (simp only [List.length_drop, List.length_take]; rfl)) ?_; (with_reducible refine (laws_zzFits8.calls k _ _ l0 true _ ?side1 ?side2 A2.out).mono ?_); (case side1 => repeat (first | exact HR0.out | (with_reducible refine Kd.C_alloc ?_ _) | (with_reducible refine Kd.C_drewN ?_ _) | (with_reducible refine Kd.C_drew ?_))); (case side2 => exact HC0.out); rintro e w' ⟨rfl, ⟨nd, rfl⟩⟩; refine ⟨_, rfl, ?_⟩) | ((with_reducible refine gate_callee (f := 5) rfl ?_); refine goesL_ (some 10) rfl rfl Try.func5 (by kernel_rfl) rfl #[.slice A0 l0.length c0] rfl (by (try simp only [List.map_toArray, List.map_cons, List.map_nil]); first | done | rfl | (simp only [List.length_drop, List.length_take]; rfl)) ?_; (with_reducible refine (laws_pieces9.calls k _ _ l0 true _ ?side1 ?side2 A4.out).mono ?_); (case side1 => repeat (first | exact HR0.out | (with_reducible refine Kd.C_alloc ?_ _) | (with_reducible refine Kd.C_drewN ?_ _) | (with_reducible refine Kd.C_drew ?_))); (case side2 => exact HC0.out); rintro e w' ⟨rfl, ⟨nd, rfl⟩⟩; refine ⟨_, rfl, ?_⟩))
      go_loopg [3, 4] k (fun kq v3 v4 w' => ∃ (x3_1 : ByteArray) (x4_1 : Int), v3 = .string x3_1 ∧ v4 = .int .i64 x4_1 ∧ Aside0 (laws_FnBlock.l0 kq l0 x3_1 x4_1 = some r) ∧ Aside0 (kq ≤ k) ∧ Aside0 (Below w.heap.size w w'))
      case atStart => exact ⟨((⟨#[123]⟩ : ByteArray)), (0), (by first | rfl | (simp; done) | (simp [*]; done)), (by first | rfl | (simp; done) | (simp [*]; done)), H', ⟨Nat.le_refl _⟩, ⟨by repeat (first | (with_reducible first | exact HB.out | apply below_alloc | apply pw_below_drewN | apply below_drew1) | exact HB.out)⟩⟩
      case round =>
        clear H'
        try clear p2
        try clear c3
        try clear c4
        try clear c5
        obtain ⟨x3_1, x4_1, rfl, rfl, HA, HK1, HB⟩ := hrel
        cases gk with
        | zero => exact absurd HA.out (by simp [laws_FnBlock.l0])
        | succ k1 =>
          have H := HA.out
          clear HA
          simp only [laws_FnBlock.l0] at H
          by_cases c6 : x4_1 < (l0.length : Int)
          · rw [if_pos c6] at H
            have c6b0 : decide (x4_1 < (l0.length : Int)) = true := decide_eq_true c6
            clear c6
            by_cases c7 : 0 ≤ x4_1
            · rw [if_pos c7] at H
              have c7b0 : decide (0 ≤ x4_1) = true := decide_eq_true c7
              clear c7
              by_cases c8 : (rdOf ByteArray.empty l0 x4_1).toList = ([] : List UInt8)
              · rw [if_pos c8] at H
                have c8b0 : ((rdOf ByteArray.empty l0 x4_1).toList == ([] : List UInt8)) = true := beq_iff_eq.mpr c8
                have c8b1 : ((rdOf ByteArray.empty l0 x4_1).toList != ([] : List UInt8)) = false := bne_eq_false_iff_eq.mpr c8
                clear c8
                obtain rfl := Option.some.inj H
                have p106 : 0 ≤ (x4_1 : Int) := of_decide_eq_true (by first | (with_reducible assumption) | assumption)
                have q106 : x4_1 < (l0.length : Int) := of_decide_eq_true (by first | (with_reducible assumption) | assumption)
                obtain ⟨ad106, e106, hx106_0⟩ := Kd.at_string HR0.out x4_1 p106 q106
                cases e106
                replace hx106_0 := (HB.out.cell (World.block_lt_of_cell? w _ hx106_0)).trans hx106_0
                replace p106 := eq_true p106
                replace q106 := eq_true q106
                go_wp2
                go_ret
                exact ⟨by first | rfl | (simp [errW_none, errW_some] <;> rfl) | (simp [*, errW_none, errW_some] <;> rfl), by repeat (first | (with_reducible first | exact HB.out | apply below_alloc | apply pw_below_drewN | apply below_drew1) | exact HB.out)⟩
              · rw [if_neg c8] at H
                have c8b0 : ((rdOf ByteArray.empty l0 x4_1).toList == ([] : List UInt8)) = false := beq_eq_false_iff_ne.mpr c8
                have c8b1 : ((rdOf ByteArray.empty l0 x4_1).toList != ([] : List UInt8)) = true := bne_iff_ne.mpr c8
                by_cases c9 : x3_1.size + 3 ≤ 9223372036854775807
                · rw [if_pos c9] at H
                  have c9b0 := eq_true c9
                  have c9b1 : decide (x3_1.size + 3 ≤ 9223372036854775807) = true := decide_eq_true c9
                  try have c9b2 : (9223372036854775807 < x3_1.size + 3) = False := eq_false (Nat.not_lt.2 c9)
                  have H' := Aside0.mk H
                  clear H
                  have p106 : 0 ≤ (x4_1 : Int) := of_decide_eq_true (by first | (with_reducible assumption) | assumption)
                  have q106 : x4_1 < (l0.length : Int) := of_decide_eq_true (by first | (with_reducible assumption) | assumption)
                  obtain ⟨ad106, e106, hx106_0⟩ := Kd.at_string HR0.out x4_1 p106 q106
                  cases e106
                  replace hx106_0 := (HB.out.cell (World.block_lt_of_cell? w _ hx106_0)).trans hx106_0
                  replace p106 := eq_true p106
                  replace q106 := eq_true q106
                  go_wp2
                  go_loopg [3, 5] k1 (fun kq v3 v5 w' => ∃ (x3_2 : ByteArray) (x5_2 : Int), v3 = .string x3_2 ∧ v5 = .int .i64 x5_2 ∧ Aside0 (laws_FnBlock.l1 kq l0 x3_2 x4_1 x5_2 = some r) ∧ Aside0 (kq ≤ k1) ∧ Aside0 (Below w.heap.size w w'))
                  case atStart => exact ⟨(x3_1 ++ (⟨#[10, 32, 32]⟩ : ByteArray)), (0), (by first | rfl | (simp; done) | (simp [*]; done)), (by first | rfl | (simp; done) | (simp [*]; done)), H', ⟨Nat.le_refl _⟩, ⟨by repeat (first | (with_reducible first | exact HB.out | apply below_alloc | apply pw_below_drewN | apply below_drew1) | exact HB.out)⟩⟩
                  case round =>
                    clear H'
                    try clear p1
                    try clear q1
                    try clear hx1
                    try clear p2
                    try clear c3
                    try clear c4
                    try clear c5
                    try clear c6
                    try clear c6b0
                    try clear c7
                    try clear c7b0
                    try clear c8
                    try clear c8b0
                    try clear c8b1
                    try clear c9
                    try clear c9b0
                    try clear c9b1
                    try clear c9b2
                    try clear hx106_0
                    try clear p106
                    try clear p2
                    try clear q106
                    obtain ⟨x3_2, x5_2, rfl, rfl, HA, HK2, HB⟩ := hrel
                    cases gk with
                    | zero => exact absurd HA.out (by simp [laws_FnBlock.l1])
                    | succ k2 =>
                      have H := HA.out
                      clear HA
                      simp only [laws_FnBlock.l1] at H
                      by_cases c10 : 0 ≤ x4_1
                      · rw [if_pos c10] at H
                        have c10b0 : decide (0 ≤ x4_1) = true := decide_eq_true c10
                        clear c10
                        by_cases c11 : x4_1 < (l0.length : Int)
                        · rw [if_pos c11] at H
                          have c11b0 : decide (x4_1 < (l0.length : Int)) = true := decide_eq_true c11
                          clear c11
                          by_cases c12 : x5_2 < ((rdOf ByteArray.empty l0 x4_1).size : Int)
                          · rw [if_pos c12] at H
                            have c12b0 : decide (x5_2 < ((rdOf ByteArray.empty l0 x4_1).size : Int)) = true := decide_eq_true c12
                            clear c12
                            by_cases c13 : 0 ≤ x5_2
                            · rw [if_pos c13] at H
                              have c13b0 := eq_true c13
                              have c13b1 : decide (0 ≤ x5_2) = true := decide_eq_true c13
                              clear c13
                              by_cases c14 : x5_2 ≤ (wrap64 (x5_2 + 1))
                              · rw [if_pos c14] at H
                                have c14b0 := eq_true c14
                                have c14b1 : decide (x5_2 ≤ (wrap64 (x5_2 + 1))) = true := decide_eq_true c14
                                by_cases c15 : (wrap64 (x5_2 + 1)) ≤ ((rdOf ByteArray.empty l0 x4_1).size : Int)
                                · rw [if_pos c15] at H
                                  have c15b0 := eq_true c15
                                  have c15b1 : decide ((wrap64 (x5_2 + 1)) ≤ ((rdOf ByteArray.empty l0 x4_1).size : Int)) = true := decide_eq_true c15
                                  by_cases c16 : x3_2.size + ((rdOf ByteArray.empty l0 x4_1).extract (x5_2 : Int).toNat ((wrap64 (x5_2 + 1)) : Int).toNat).size ≤ 9223372036854775807
                                  · rw [if_pos c16] at H
                                    have c16b0 := eq_true c16
                                    have c16b1 : decide (x3_2.size + ((rdOf ByteArray.empty l0 x4_1).extract (x5_2 : Int).toNat ((wrap64 (x5_2 + 1)) : Int).toNat).size ≤ 9223372036854775807) = true := decide_eq_true c16
                                    try have c16b2 : (9223372036854775807 < x3_2.size + ((rdOf ByteArray.empty l0 x4_1).extract (x5_2 : Int).toNat ((wrap64 (x5_2 + 1)) : Int).toNat).size) = False := eq_false (Nat.not_lt.2 c16)
                                    by_cases c18 : (bt (rdOf ByteArray.empty l0 x4_1) x5_2) = 10
                                    · rw [if_pos c18] at H
                                      have c18b0 : ((bt (rdOf ByteArray.empty l0 x4_1) x5_2) == 10) = true := beq_iff_eq.mpr c18
                                      have c18b1 : ((bt (rdOf ByteArray.empty l0 x4_1) x5_2) != 10) = false := bne_eq_false_iff_eq.mpr c18
                                      clear c18
                                      by_cases c19 : (x3_2 ++ ((rdOf ByteArray.empty l0 x4_1).extract (x5_2 : Int).toNat ((wrap64 (x5_2 + 1)) : Int).toNat)).size + 2 ≤ 9223372036854775807
                                      · rw [if_pos c19] at H
                                        have c19b0 := eq_true c19
                                        have c19b1 : decide ((x3_2 ++ ((rdOf ByteArray.empty l0 x4_1).extract (x5_2 : Int).toNat ((wrap64 (x5_2 + 1)) : Int).toNat)).size + 2 ≤ 9223372036854775807) = true := decide_eq_true c19
                                        try have c19b2 : (9223372036854775807 < (x3_2 ++ ((rdOf ByteArray.empty l0 x4_1).extract (x5_2 : Int).toNat ((wrap64 (x5_2 + 1)) : Int).toNat)).size + 2) = False := eq_false (Nat.not_lt.2 c19)
                                        have c19b3 : (9223372036854775807 < x3_2.size + ((wrap64 (x5_2 + 1)).toNat - x5_2.toNat) + 2) = False := eq_false (by have h_ := c19; rw [ByteArray.size_append, ByteArray.size_extract] at h_; omega)
                                        have H' := Aside0.mk H
                                        clear H
                                        have p107 : 0 ≤ (x4_1 : Int) := of_decide_eq_true (by first | (with_reducible assumption) | assumption)
                                        have q107 : x4_1 < (l0.length : Int) := of_decide_eq_true (by first | (with_reducible assumption) | assumption)
                                        obtain ⟨ad107, e107, hx107_0⟩ := Kd.at_string HR0.out x4_1 p107 q107
                                        obtain rfl : ad106 = ad107 := (by injection e107)
                                        replace hx107_0 := (HB.out.cell (World.block_lt_of_cell? w _ hx107_0)).trans hx107_0
                                        replace p107 := eq_true p107
                                        replace q107 := eq_true q107
                                        have p108 : 0 ≤ (x4_1 : Int) := of_decide_eq_true (by first | (with_reducible assumption) | assumption)
                                        have q108 : x4_1 < (l0.length : Int) := of_decide_eq_true (by first | (with_reducible assumption) | assumption)
                                        obtain ⟨ad108, e108, hx108_0⟩ := Kd.at_string HR0.out x4_1 p108 q108
                                        obtain rfl : ad106 = ad108 := (by injection e108)
                                        replace hx108_0 := (HB.out.cell (World.block_lt_of_cell? w _ hx108_0)).trans hx108_0
                                        replace p108 := eq_true p108
                                        replace q108 := eq_true q108
                                        have p109 : 0 ≤ (x4_1 : Int) := of_decide_eq_true (by first | (with_reducible assumption) | assumption)
                                        have q109 : x4_1 < (l0.length : Int) := of_decide_eq_true (by first | (with_reducible assumption) | assumption)
                                        obtain ⟨ad109, e109, hx109_0⟩ := Kd.at_string HR0.out x4_1 p109 q109
                                        obtain rfl : ad106 = ad109 := (by injection e109)
                                        replace hx109_0 := (HB.out.cell (World.block_lt_of_cell? w _ hx109_0)).trans hx109_0
                                        replace p109 := eq_true p109
                                        replace q109 := eq_true q109
                                        have p17 : 0 ≤ (x5_2 : Int) := of_decide_eq_true (by first | (with_reducible assumption) | assumption)
                                        have q17 : x5_2 < ((rdOf ByteArray.empty l0 x4_1).size : Int) := of_decide_eq_true (by first | (with_reducible assumption) | assumption)
                                        have hx17 := bt_at (rdOf ByteArray.empty l0 x4_1) x5_2
                                        replace p17 := eq_true p17
                                        replace q17 := eq_true q17
                                        go_wp2
                                        go_roundg k2
                                        case measure => have := HK1.out; have := HK2.out; omega
                                        case rel => exact ⟨((x3_2 ++ ((rdOf ByteArray.empty l0 x4_1).extract (x5_2 : Int).toNat ((wrap64 (x5_2 + 1)) : Int).toNat)) ++ (⟨#[32, 32]⟩ : ByteArray)), (wrap64 (x5_2 + 1)), (by first | rfl | (simp; done) | (simp [*]; done)), (by first | rfl | (simp; done) | (simp [*]; done)), H', ⟨by have := HK1.out; have := HK2.out; omega⟩, ⟨by repeat (first | (with_reducible first | exact HB.out | apply below_alloc | apply pw_below_drewN | apply below_drew1) | exact HB.out)⟩⟩
                                      · rw [if_neg c19] at H
                                        exact absurd H (by simp)
                                    · rw [if_neg c18] at H
                                      have c18b0 : ((bt (rdOf ByteArray.empty l0 x4_1) x5_2) == 10) = false := beq_eq_false_iff_ne.mpr c18
                                      have c18b1 : ((bt (rdOf ByteArray.empty l0 x4_1) x5_2) != 10) = true := bne_iff_ne.mpr c18
                                      have H' := Aside0.mk H
                                      clear H
                                      have p107 : 0 ≤ (x4_1 : Int) := of_decide_eq_true (by first | (with_reducible assumption) | assumption)
                                      have q107 : x4_1 < (l0.length : Int) := of_decide_eq_true (by first | (with_reducible assumption) | assumption)
                                      obtain ⟨ad107, e107, hx107_0⟩ := Kd.at_string HR0.out x4_1 p107 q107
                                      obtain rfl : ad106 = ad107 := (by injection e107)
                                      replace hx107_0 := (HB.out.cell (World.block_lt_of_cell? w _ hx107_0)).trans hx107_0
                                      replace p107 := eq_true p107
                                      replace q107 := eq_true q107
                                      have p108 : 0 ≤ (x4_1 : Int) := of_decide_eq_true (by first | (with_reducible assumption) | assumption)
                                      have q108 : x4_1 < (l0.length : Int) := of_decide_eq_true (by first | (with_reducible assumption) | assumption)
                                      obtain ⟨ad108, e108, hx108_0⟩ := Kd.at_string HR0.out x4_1 p108 q108
                                      obtain rfl : ad106 = ad108 := (by injection e108)
                                      replace hx108_0 := (HB.out.cell (World.block_lt_of_cell? w _ hx108_0)).trans hx108_0
                                      replace p108 := eq_true p108
                                      replace q108 := eq_true q108
                                      have p109 : 0 ≤ (x4_1 : Int) := of_decide_eq_true (by first | (with_reducible assumption) | assumption)
                                      have q109 : x4_1 < (l0.length : Int) := of_decide_eq_true (by first | (with_reducible assumption) | assumption)
                                      obtain ⟨ad109, e109, hx109_0⟩ := Kd.at_string HR0.out x4_1 p109 q109
                                      obtain rfl : ad106 = ad109 := (by injection e109)
                                      replace hx109_0 := (HB.out.cell (World.block_lt_of_cell? w _ hx109_0)).trans hx109_0
                                      replace p109 := eq_true p109
                                      replace q109 := eq_true q109
                                      have p17 : 0 ≤ (x5_2 : Int) := of_decide_eq_true (by first | (with_reducible assumption) | assumption)
                                      have q17 : x5_2 < ((rdOf ByteArray.empty l0 x4_1).size : Int) := of_decide_eq_true (by first | (with_reducible assumption) | assumption)
                                      have hx17 := bt_at (rdOf ByteArray.empty l0 x4_1) x5_2
                                      replace p17 := eq_true p17
                                      replace q17 := eq_true q17
                                      go_wp2
                                      go_roundg k2
                                      case measure => have := HK1.out; have := HK2.out; omega
                                      case rel => exact ⟨(x3_2 ++ ((rdOf ByteArray.empty l0 x4_1).extract (x5_2 : Int).toNat ((wrap64 (x5_2 + 1)) : Int).toNat)), (wrap64 (x5_2 + 1)), (by first | rfl | (simp; done) | (simp [*]; done)), (by first | rfl | (simp; done) | (simp [*]; done)), H', ⟨by have := HK1.out; have := HK2.out; omega⟩, ⟨by repeat (first | (with_reducible first | exact HB.out | apply below_alloc | apply pw_below_drewN | apply below_drew1) | exact HB.out)⟩⟩
                                  · rw [if_neg c16] at H
                                    exact absurd H (by simp)
                                · rw [if_neg c15] at H
                                  exact absurd H (by simp)
                              · rw [if_neg c14] at H
                                exact absurd H (by simp)
                            · rw [if_neg c13] at H
                              exact absurd H (by simp)
                          · rw [if_neg c12] at H
                            have c12b0 : decide (x5_2 < ((rdOf ByteArray.empty l0 x4_1).size : Int)) = false := decide_eq_false c12
                            clear c12
                            have H' := Aside0.mk H
                            clear H
                            have p107 : 0 ≤ (x4_1 : Int) := of_decide_eq_true (by first | (with_reducible assumption) | assumption)
                            have q107 : x4_1 < (l0.length : Int) := of_decide_eq_true (by first | (with_reducible assumption) | assumption)
                            obtain ⟨ad107, e107, hx107_0⟩ := Kd.at_string HR0.out x4_1 p107 q107
                            obtain rfl : ad106 = ad107 := (by injection e107)
                            replace hx107_0 := (HB.out.cell (World.block_lt_of_cell? w _ hx107_0)).trans hx107_0
                            replace p107 := eq_true p107
                            replace q107 := eq_true q107
                            go_wp2
                            go_roundg k2
                            case measure => have := HK1.out; have := HK2.out; omega
                            case rel => exact ⟨(x3_2), (wrap64 (x4_1 + 1)), (by first | rfl | (simp; done) | (simp [*]; done)), (by first | rfl | (simp; done) | (simp [*]; done)), H', ⟨by have := HK1.out; have := HK2.out; omega⟩, ⟨by repeat (first | (with_reducible first | exact HB.out | apply below_alloc | apply pw_below_drewN | apply below_drew1) | exact HB.out)⟩⟩
                        · rw [if_neg c11] at H
                          exact absurd H (by simp)
                      · rw [if_neg c10] at H
                        exact absurd H (by simp)
                · rw [if_neg c9] at H
                  exact absurd H (by simp)
            · rw [if_neg c7] at H
              exact absurd H (by simp)
          · rw [if_neg c6] at H
            have c6b0 : decide (x4_1 < (l0.length : Int)) = false := decide_eq_false c6
            clear c6
            by_cases c20 : (l0.length : Int) > 0
            · rw [if_pos c20] at H
              have c20b0 : decide (0 < (l0.length : Int)) = true := decide_eq_true c20
              have c20b1 : decide (0 < l0.length) = true := decide_eq_true (by omega)
              clear c20
              by_cases c21 : x3_1.size + 1 ≤ 9223372036854775807
              · rw [if_pos c21] at H
                have c21b0 := eq_true c21
                have c21b1 : decide (x3_1.size + 1 ≤ 9223372036854775807) = true := decide_eq_true c21
                try have c21b2 : (9223372036854775807 < x3_1.size + 1) = False := eq_false (Nat.not_lt.2 c21)
                replace H := Option.bind_eq_some_iff.mp H
                obtain ⟨t104, A220, H⟩ := H
                replace H : (if (x3_1 ++ (⟨#[10]⟩ : ByteArray)).size + 1 ≤ 9223372036854775807 then (some (t104.toList == ((x3_1 ++ (⟨#[10]⟩ : ByteArray)) ++ (⟨#[125]⟩ : ByteArray)).toList)) else (none)) = some r := H
                have A22 := Aside0.mk A220
                clear A220
                by_cases c23 : (x3_1 ++ (⟨#[10]⟩ : ByteArray)).size + 1 ≤ 9223372036854775807
                · rw [if_pos c23] at H
                  have c23b0 := eq_true c23
                  have c23b1 : decide ((x3_1 ++ (⟨#[10]⟩ : ByteArray)).size + 1 ≤ 9223372036854775807) = true := decide_eq_true c23
                  try have c23b2 : (9223372036854775807 < (x3_1 ++ (⟨#[10]⟩ : ByteArray)).size + 1) = False := eq_false (Nat.not_lt.2 c23)
                  have c23b3 : (9223372036854775807 < x3_1.size + 1 + 1) = False := eq_false (by have h_ := c23; rw [ByteArray.size_append] at h_; have z_ : ((⟨#[10]⟩ : ByteArray)).size = 1 := rfl; omega)
                  obtain rfl := Option.some.inj H
                  go_wp2_with (first | ((with_reducible refine gate_callee (f := 6) rfl ?_); refine goesL_ (some 59) rfl rfl Try.func6 (by kernel_rfl) rfl #[.slice A0 l0.length c0] rfl (by (try simp only [List.map_toArray, List.map_cons, List.map_nil]); first | done | rfl | (simp only [List.length_drop, List.length_take]; rfl)) ?_; (with_reducible refine (impl_Block.calls k1 _ _ l0 t104 _ ?side1 ?side2 A22.out).mono ?_); (case side1 => repeat (first | exact (Kd.C_below HR0.out HB.out) | (with_reducible refine Kd.C_alloc ?_ _) | (with_reducible refine Kd.C_drewN ?_ _) | (with_reducible refine Kd.C_drew ?_))); (case side2 => exact HC0.out); rintro e w24 ⟨rfl, hb⟩; refine ⟨_, rfl, ?_⟩; have n0_ := Aside0.mk (below_step (by repeat (first | (with_reducible first | exact HB.out | apply below_alloc | apply pw_below_drewN | apply below_drew1) | exact HB.out)) hb); clear HB; have HB := n0_; clear n0_; (try clear hb); (try clear hb2); (try clear hk); (try clear hi)))
                  go_ret
                  exact ⟨by first | rfl | (simp [errW_none, errW_some] <;> rfl) | (simp [*, errW_none, errW_some] <;> rfl), by repeat (first | (with_reducible first | exact HB.out | apply below_alloc | apply pw_below_drewN | apply below_drew1) | exact HB.out)⟩
                · rw [if_neg c23] at H
                  exact absurd H (by simp)
              · rw [if_neg c21] at H
                exact absurd H (by simp)
            · rw [if_neg c20] at H
              have c20b0 : decide (0 < (l0.length : Int)) = false := decide_eq_false c20
              have c20b1 : decide (0 < l0.length) = false := decide_eq_false (by omega)
              clear c20
              replace H := Option.bind_eq_some_iff.mp H
              obtain ⟨t105, A250, H⟩ := H
              replace H : (if x3_1.size + 1 ≤ 9223372036854775807 then (some (t105.toList == (x3_1 ++ (⟨#[125]⟩ : ByteArray)).toList)) else (none)) = some r := H
              have A25 := Aside0.mk A250
              clear A250
              by_cases c26 : x3_1.size + 1 ≤ 9223372036854775807
              · rw [if_pos c26] at H
                have c26b0 := eq_true c26
                have c26b1 : decide (x3_1.size + 1 ≤ 9223372036854775807) = true := decide_eq_true c26
                try have c26b2 : (9223372036854775807 < x3_1.size + 1) = False := eq_false (Nat.not_lt.2 c26)
                obtain rfl := Option.some.inj H
                go_wp2_with (first | ((with_reducible refine gate_callee (f := 6) rfl ?_); refine goesL_ (some 59) rfl rfl Try.func6 (by kernel_rfl) rfl #[.slice A0 l0.length c0] rfl (by (try simp only [List.map_toArray, List.map_cons, List.map_nil]); first | done | rfl | (simp only [List.length_drop, List.length_take]; rfl)) ?_; (with_reducible refine (impl_Block.calls k1 _ _ l0 t105 _ ?side1 ?side2 A25.out).mono ?_); (case side1 => repeat (first | exact (Kd.C_below HR0.out HB.out) | (with_reducible refine Kd.C_alloc ?_ _) | (with_reducible refine Kd.C_drewN ?_ _) | (with_reducible refine Kd.C_drew ?_))); (case side2 => exact HC0.out); rintro e w27 ⟨rfl, hb⟩; refine ⟨_, rfl, ?_⟩; have n0_ := Aside0.mk (below_step (by repeat (first | (with_reducible first | exact HB.out | apply below_alloc | apply pw_below_drewN | apply below_drew1) | exact HB.out)) hb); clear HB; have HB := n0_; clear n0_; (try clear hb); (try clear hb2); (try clear hk); (try clear hi)))
                go_ret
                exact ⟨by first | rfl | (simp [errW_none, errW_some] <;> rfl) | (simp [*, errW_none, errW_some] <;> rfl), by repeat (first | (with_reducible first | exact HB.out | apply below_alloc | apply pw_below_drewN | apply below_drew1) | exact HB.out)⟩
              · rw [if_neg c26] at H
                exact absurd H (by simp)
    · replace c5 := Bool.eq_false_iff.mpr c5
      subst c5
      have H1 : (some true) = some r := by rw [if_neg (show ¬ (false = true) by decide)] at H; exact H
      clear H
      have H := H1
      clear H1
      obtain rfl := Option.some.inj H
      go_enter Try.func3, Try.ntmps3
      go_wp2_with (first | ((with_reducible refine gate_callee (f := 4) rfl ?_); refine goesL_ (some 7) rfl rfl Try.func4 (by kernel_rfl) rfl #[.slice A0 l0.length c0] rfl (by (try simp only [List.map_toArray, List.map_cons, List.map_nil]); first | done | rfl | (simp only [List.length_drop, List.length_take]; rfl)) ?_; (with_reducible refine (laws_zzFits8.calls k _ _ l0 true _ ?side1 ?side2 A2.out).mono ?_); (case side1 => repeat (first | exact HR0.out | (with_reducible refine Kd.C_alloc ?_ _) | (with_reducible refine Kd.C_drewN ?_ _) | (with_reducible refine Kd.C_drew ?_))); (case side2 => exact HC0.out); rintro e w' ⟨rfl, ⟨nd, rfl⟩⟩; refine ⟨_, rfl, ?_⟩) | ((with_reducible refine gate_callee (f := 5) rfl ?_); refine goesL_ (some 10) rfl rfl Try.func5 (by kernel_rfl) rfl #[.slice A0 l0.length c0] rfl (by (try simp only [List.map_toArray, List.map_cons, List.map_nil]); first | done | rfl | (simp only [List.length_drop, List.length_take]; rfl)) ?_; (with_reducible refine (laws_pieces9.calls k _ _ l0 false _ ?side1 ?side2 A4.out).mono ?_); (case side1 => repeat (first | exact HR0.out | (with_reducible refine Kd.C_alloc ?_ _) | (with_reducible refine Kd.C_drewN ?_ _) | (with_reducible refine Kd.C_drew ?_))); (case side2 => exact HC0.out); rintro e w' ⟨rfl, ⟨nd, rfl⟩⟩; refine ⟨_, rfl, ?_⟩))
      go_ret
      exact ⟨by first | rfl | (simp [errW_none, errW_some] <;> rfl) | (simp [*, errW_none, errW_some] <;> rfl), by repeat (first | (with_reducible first | exact HB.out | apply below_alloc | apply pw_below_drewN | apply below_drew1) | exact HB.out)⟩
  · replace c3 := Bool.eq_false_iff.mpr c3
    subst c3
    have H1 : (some true) = some r := by rw [if_neg (show ¬ (false = true) by decide)] at H; exact H
    clear H
    have H := H1
    clear H1
    obtain rfl := Option.some.inj H
    go_enter Try.func3, Try.ntmps3
    go_wp2_with (first | ((with_reducible refine gate_callee (f := 4) rfl ?_); refine goesL_ (some 7) rfl rfl Try.func4 (by kernel_rfl) rfl #[.slice A0 l0.length c0] rfl (by (try simp only [List.map_toArray, List.map_cons, List.map_nil]); first | done | rfl | (simp only [List.length_drop, List.length_take]; rfl)) ?_; (with_reducible refine (laws_zzFits8.calls k _ _ l0 false _ ?side1 ?side2 A2.out).mono ?_); (case side1 => repeat (first | exact HR0.out | (with_reducible refine Kd.C_alloc ?_ _) | (with_reducible refine Kd.C_drewN ?_ _) | (with_reducible refine Kd.C_drew ?_))); (case side2 => exact HC0.out); rintro e w' ⟨rfl, ⟨nd, rfl⟩⟩; refine ⟨_, rfl, ?_⟩))
    go_ret
    exact ⟨by first | rfl | (simp [errW_none, errW_some] <;> rfl) | (simp [*, errW_none, errW_some] <;> rfl), by repeat (first | (with_reducible first | exact HB.out | apply below_alloc | apply pw_below_drewN | apply below_drew1) | exact HB.out)⟩

end Go.Proofs.Ytknbpibjjhcdiac.PFnBlock.R
