-- PRINTED BY print.sh 35421559b90ae4d0a3588c463048766b98c2df88dd9212a6774a882060cdf62d: not written by this session
import Derived.Test.YtbobbognjmofdaaGreatDoorPtextx0
namespace Go.Proofs.YtbobbognjmofdaaGreatDoor.Ptext
open Go.RowKit Go.Proofs.YtbobbognjmofdaaGreatDoorW.PrintWords Go.Proofs.YtbobbognjmofdaaGreatDoorW.PrintLast Go.Proofs.YtbobbognjmofdaaGreatDoorW.PrintMore
attribute [local go_sem] max2_int min2_int max_two min_two max_three min_three max_four min_four   -- for this text's walks alone
set_option linter.unusedVariables false
set_option linter.unusedSimpArgs false

/-! ### spec_Point: function 36 -/
mutual
def spec_Point.j2 : Nat → ByteArray → Int → Int → Int → Int → Option (Int × Int)
  | 0, _, _, _, _, _ => none
  | k + 1, x0, x1, x4, x5, x7 => if x5 = 0 then (spec_Point.j3 k x0 x1 x4 x5 x7 true) else (spec_Point.j3 k x0 x1 x4 x5 x7 (decide ((wrap64 (x1 + x5)) > (x0.size : Int))))
def spec_Point.j3 : Nat → ByteArray → Int → Int → Int → Int → Bool → Option (Int × Int)
  | 0, _, _, _, _, _, _ => none
  | k + 1, x0, x1, x4, x5, x7, x53 => if x53 = true then (some (0, 0)) else (spec_Point.l0 k x0 x1 x4 x5 x7 (wrap64 (x1 + 1)))
def spec_Point.l0 : Nat → ByteArray → Int → Int → Int → Int → Int → Option (Int × Int)
  | 0, _, _, _, _, _, _ => none
  | k + 1, x0, x1, x4, x5, x7, x8 => if x8 < (wrap64 (x1 + x5)) then (if 0 ≤ x8 then (if x8 < (x0.size : Int) then (if (bt x0 x8) < 128 then (some (0, 0)) else (if (bt x0 x8) > 191 then (some (0, 0)) else (spec_Point.l0 k x0 x1 (wrap64 ((wrap64 ((wrap64 (x4 * 64)) + (wrap64 (bt x0 x8)))) - 128)) x5 x7 (wrap64 (x8 + 1))))) else (none)) else (none)) else (if x4 < x7 then (some (0, 0)) else (if x4 > 1114111 then (some (0, 0)) else (if x4 ≥ 55296 then (if x4 < 57344 then (some (0, 0)) else (some (x4, x5))) else (some (x4, x5)))))
def spec_Point.j0 : Nat → ByteArray → Int → Int → Int → Int → Int → Bool → Option (Int × Int)
  | 0, _, _, _, _, _, _, _ => none
  | k + 1, x0, x1, x4, x5, x6, x7, x17 => if x17 = true then (spec_Point.j2 k x0 x1 (wrap64 (x6 - 192)) 2 128) else (if x6 ≥ 224 then (spec_Point.j1 k x0 x1 x4 x5 x6 x7 (decide (x6 < 240))) else (spec_Point.j1 k x0 x1 x4 x5 x6 x7 false))
def spec_Point.j1 : Nat → ByteArray → Int → Int → Int → Int → Int → Bool → Option (Int × Int)
  | 0, _, _, _, _, _, _, _ => none
  | k + 1, x0, x1, x4, x5, x6, x7, x26 => if x26 = true then (spec_Point.j2 k x0 x1 (wrap64 (x6 - 224)) 3 2048) else (if x6 ≥ 240 then (if x6 < 245 then (spec_Point.j2 k x0 x1 (wrap64 (x6 - 240)) 4 65536) else (spec_Point.j2 k x0 x1 x4 x5 x7)) else (spec_Point.j2 k x0 x1 x4 x5 x7))
end
def spec_Point.f (k : Nat) (a0 : ByteArray) (a1 : Int) : Option (Int × Int) := if 0 ≤ a1 then (if a1 < (a0.size : Int) then (if (wrap64 (bt a0 a1)) < 128 then (some (wrap64 (bt a0 a1), 1)) else (if (wrap64 (bt a0 a1)) ≥ 194 then (spec_Point.j0 k a0 a1 0 0 (wrap64 (bt a0 a1)) 0 (decide ((wrap64 (bt a0 a1)) < 224))) else (spec_Point.j0 k a0 a1 0 0 (wrap64 (bt a0 a1)) 0 false))) else (none)) else (none)
theorem spec_Point.mono_l : ∀ k, (∀ y0 y1 y2 y3 y4, LeO (spec_Point.j2 k y0 y1 y2 y3 y4) (spec_Point.j2 (k + 1) y0 y1 y2 y3 y4)) ∧ (∀ y0 y1 y2 y3 y4 y5, LeO (spec_Point.j3 k y0 y1 y2 y3 y4 y5) (spec_Point.j3 (k + 1) y0 y1 y2 y3 y4 y5)) ∧ (∀ y0 y1 y2 y3 y4 y5, LeO (spec_Point.l0 k y0 y1 y2 y3 y4 y5) (spec_Point.l0 (k + 1) y0 y1 y2 y3 y4 y5)) ∧ (∀ y0 y1 y2 y3 y4 y5 y6, LeO (spec_Point.j0 k y0 y1 y2 y3 y4 y5 y6) (spec_Point.j0 (k + 1) y0 y1 y2 y3 y4 y5 y6)) ∧ (∀ y0 y1 y2 y3 y4 y5 y6, LeO (spec_Point.j1 k y0 y1 y2 y3 y4 y5 y6) (spec_Point.j1 (k + 1) y0 y1 y2 y3 y4 y5 y6))
  | 0 => ⟨fun _ _ _ _ _ r h => by simp [spec_Point.j2] at h, fun _ _ _ _ _ _ r h => by simp [spec_Point.j3] at h, fun _ _ _ _ _ _ r h => by simp [spec_Point.l0] at h, fun _ _ _ _ _ _ _ r h => by simp [spec_Point.j0] at h, fun _ _ _ _ _ _ _ r h => by simp [spec_Point.j1] at h⟩
  | k + 1 => by
    obtain ⟨ih0, ih1, ih2, ih3, ih4⟩ := spec_Point.mono_l k
    refine ⟨?_, ?_, ?_, ?_, ?_⟩
    · intro y0 y1 y2 y3 y4
      unfold spec_Point.j2
      repeat' first
      | (with_reducible exact ih0 _ _ _ _ _)
      | (with_reducible exact ih1 _ _ _ _ _ _)
      | (with_reducible exact ih2 _ _ _ _ _ _)
      | (with_reducible exact ih3 _ _ _ _ _ _ _)
      | (with_reducible exact ih4 _ _ _ _ _ _ _)
      | (with_reducible exact LeO.refl _)
      | (with_reducible exact LeO.none _)
      | (with_reducible refine LeO.ite ?_ ?_)
      | (with_reducible refine LeO.bind ?_ (fun _ => ?_))
      | exact ih0 _ _ _ _ _
      | exact ih1 _ _ _ _ _ _
      | exact ih2 _ _ _ _ _ _
      | exact ih3 _ _ _ _ _ _ _
      | exact ih4 _ _ _ _ _ _ _
      | exact LeO.none _
      | refine LeO.ite ?_ ?_
      | refine LeO.bind ?_ (fun _ => ?_)
    · intro y0 y1 y2 y3 y4 y5
      unfold spec_Point.j3
      repeat' first
      | (with_reducible exact ih0 _ _ _ _ _)
      | (with_reducible exact ih1 _ _ _ _ _ _)
      | (with_reducible exact ih2 _ _ _ _ _ _)
      | (with_reducible exact ih3 _ _ _ _ _ _ _)
      | (with_reducible exact ih4 _ _ _ _ _ _ _)
      | (with_reducible exact LeO.refl _)
      | (with_reducible exact LeO.none _)
      | (with_reducible refine LeO.ite ?_ ?_)
      | (with_reducible refine LeO.bind ?_ (fun _ => ?_))
      | exact ih0 _ _ _ _ _
      | exact ih1 _ _ _ _ _ _
      | exact ih2 _ _ _ _ _ _
      | exact ih3 _ _ _ _ _ _ _
      | exact ih4 _ _ _ _ _ _ _
      | exact LeO.none _
      | refine LeO.ite ?_ ?_
      | refine LeO.bind ?_ (fun _ => ?_)
    · intro y0 y1 y2 y3 y4 y5
      unfold spec_Point.l0
      repeat' first
      | (with_reducible exact ih0 _ _ _ _ _)
      | (with_reducible exact ih1 _ _ _ _ _ _)
      | (with_reducible exact ih2 _ _ _ _ _ _)
      | (with_reducible exact ih3 _ _ _ _ _ _ _)
      | (with_reducible exact ih4 _ _ _ _ _ _ _)
      | (with_reducible exact LeO.refl _)
      | (with_reducible exact LeO.none _)
      | (with_reducible refine LeO.ite ?_ ?_)
      | (with_reducible refine LeO.bind ?_ (fun _ => ?_))
      | exact ih0 _ _ _ _ _
      | exact ih1 _ _ _ _ _ _
      | exact ih2 _ _ _ _ _ _
      | exact ih3 _ _ _ _ _ _ _
      | exact ih4 _ _ _ _ _ _ _
      | exact LeO.none _
      | refine LeO.ite ?_ ?_
      | refine LeO.bind ?_ (fun _ => ?_)
    · intro y0 y1 y2 y3 y4 y5 y6
      unfold spec_Point.j0
      repeat' first
      | (with_reducible exact ih0 _ _ _ _ _)
      | (with_reducible exact ih1 _ _ _ _ _ _)
      | (with_reducible exact ih2 _ _ _ _ _ _)
      | (with_reducible exact ih3 _ _ _ _ _ _ _)
      | (with_reducible exact ih4 _ _ _ _ _ _ _)
      | (with_reducible exact LeO.refl _)
      | (with_reducible exact LeO.none _)
      | (with_reducible refine LeO.ite ?_ ?_)
      | (with_reducible refine LeO.bind ?_ (fun _ => ?_))
      | exact ih0 _ _ _ _ _
      | exact ih1 _ _ _ _ _ _
      | exact ih2 _ _ _ _ _ _
      | exact ih3 _ _ _ _ _ _ _
      | exact ih4 _ _ _ _ _ _ _
      | exact LeO.none _
      | refine LeO.ite ?_ ?_
      | refine LeO.bind ?_ (fun _ => ?_)
    · intro y0 y1 y2 y3 y4 y5 y6
      unfold spec_Point.j1
      repeat' first
      | (with_reducible exact ih0 _ _ _ _ _)
      | (with_reducible exact ih1 _ _ _ _ _ _)
      | (with_reducible exact ih2 _ _ _ _ _ _)
      | (with_reducible exact ih3 _ _ _ _ _ _ _)
      | (with_reducible exact ih4 _ _ _ _ _ _ _)
      | (with_reducible exact LeO.refl _)
      | (with_reducible exact LeO.none _)
      | (with_reducible refine LeO.ite ?_ ?_)
      | (with_reducible refine LeO.bind ?_ (fun _ => ?_))
      | exact ih0 _ _ _ _ _
      | exact ih1 _ _ _ _ _ _
      | exact ih2 _ _ _ _ _ _
      | exact ih3 _ _ _ _ _ _ _
      | exact ih4 _ _ _ _ _ _ _
      | exact LeO.none _
      | refine LeO.ite ?_ ?_
      | refine LeO.bind ?_ (fun _ => ?_)
theorem spec_Point.mono : ∀ a0 a1 k, LeO (spec_Point.f k a0 a1) (spec_Point.f (k + 1) a0 a1) := by
  intro a0 a1 k
  obtain ⟨ih0, ih1, ih2, ih3, ih4⟩ := spec_Point.mono_l k
  unfold spec_Point.f
  repeat' first
      | (with_reducible exact ih0 _ _ _ _ _)
      | (with_reducible exact ih1 _ _ _ _ _ _)
      | (with_reducible exact ih2 _ _ _ _ _ _)
      | (with_reducible exact ih3 _ _ _ _ _ _ _)
      | (with_reducible exact ih4 _ _ _ _ _ _ _)
      | (with_reducible exact LeO.refl _)
      | (with_reducible exact LeO.none _)
      | (with_reducible refine LeO.ite ?_ ?_)
      | (with_reducible refine LeO.bind ?_ (fun _ => ?_))
      | exact ih0 _ _ _ _ _
      | exact ih1 _ _ _ _ _ _
      | exact ih2 _ _ _ _ _ _
      | exact ih3 _ _ _ _ _ _ _
      | exact ih4 _ _ _ _ _ _ _
      | exact LeO.none _
      | refine LeO.ite ?_ ?_
      | refine LeO.bind ?_ (fun _ => ?_)
set_option maxHeartbeats 8000000 in
set_option maxRecDepth 100000 in
theorem spec_Point.calls (k : Nat) (a0 : ByteArray) (a1 : Int) (r1 : Int) (r2 : Int) (w : World) (h : spec_Point.f k a0 a1 = some (r1, r2)) :
    Calls Tryz.prog 36 #[.string a0, .int .i64 a1] w fun e w' => e = .returned (.tuple #[.int .i64 r1, .int .i64 r2]) ∧ Drawn0 w w' := by
  have H : (if 0 ≤ a1 then (if a1 < (a0.size : Int) then (if (wrap64 (bt a0 a1)) < 128 then (some (wrap64 (bt a0 a1), 1)) else (if (wrap64 (bt a0 a1)) ≥ 194 then (spec_Point.j0 k a0 a1 0 0 (wrap64 (bt a0 a1)) 0 (decide ((wrap64 (bt a0 a1)) < 224))) else (spec_Point.j0 k a0 a1 0 0 (wrap64 (bt a0 a1)) 0 false))) else (none)) else (none)) = some (r1, r2) := h
  clear h
  by_cases c3 : 0 ≤ a1
  · rw [if_pos c3] at H
    have c3b0 : decide (0 ≤ a1) = true := decide_eq_true c3
    clear c3
    by_cases c4 : a1 < (a0.size : Int)
    · rw [if_pos c4] at H
      have c4b0 : decide (a1 < (a0.size : Int)) = true := decide_eq_true c4
      clear c4
      have HC6 := Aside0.mk H
      clear H
      have p5 : 0 ≤ (a1 : Int) := of_decide_eq_true (by first | (with_reducible assumption) | assumption)
      have q5 : a1 < (a0.size : Int) := of_decide_eq_true (by first | (with_reducible assumption) | assumption)
      have hx5 := bt_at a0 a1
      replace p5 := eq_true p5
      replace q5 := eq_true q5
      go_enter Tryz.func36, Tryz.ntmps36
      go_upto_block 0 with (fail)
      go_cut [4, 5, 7] (fun v4 v5 v7 wc => ∃ (kq : Nat) (x4_5 : Int) (x5_5 : Int) (x7_5 : Int), v4 = .int .i64 x4_5 ∧ v5 = .int .i64 x5_5 ∧ v7 = .int .i64 x7_5 ∧ Aside0 (spec_Point.j2 kq a0 a1 x4_5 x5_5 x7_5 = some (r1, r2)) ∧ Aside0 (kq ≤ k) ∧ Drawn0 w wc)
      case first =>
        have H := HC6.out
        clear HC6
        by_cases c7 : (wrap64 (bt a0 a1)) < 128
        · rw [if_pos c7] at H
          have c7b0 : decide ((wrap64 (bt a0 a1)) < 128) = true := decide_eq_true c7
          clear c7
          (first | rw [c7b0] | (simp only [i64_w, i32_w]; rw [c7b0]) | skip)
          simp only [Option.some.injEq, Prod.mk.injEq] at H
          obtain ⟨rfl, rfl⟩ := H
          go_wp2
          go_ret2
          exact ⟨by first | rfl | (simp; done) | (simp [*]; done), by repeat (first | exact Drawn0.refl _ | apply Drawn0.step)⟩
        · rw [if_neg c7] at H
          have c7b0 : decide ((wrap64 (bt a0 a1)) < 128) = false := decide_eq_false c7
          clear c7
          (first | rw [c7b0] | (simp only [i64_w, i32_w]; rw [c7b0]) | skip)
          have HC8 := Aside0.mk H
          clear H
          go_upto_region 5 with (fail)
          go_cut [17] (fun v17 wc => ∃ (kq : Nat) (x17_7 : Bool), v17 = .bool x17_7 ∧ Aside0 (spec_Point.j0 kq a0 a1 0 0 (wrap64 (bt a0 a1)) 0 x17_7 = some (r1, r2)) ∧ Aside0 (kq ≤ k) ∧ Drawn0 w wc)
          case first =>
            have H := HC8.out
            clear HC8
            by_cases c9 : (wrap64 (bt a0 a1)) ≥ 194
            · rw [if_pos c9] at H
              have c9b0 : decide (194 ≤ (wrap64 (bt a0 a1))) = true := decide_eq_true c9
              clear c9
              (first | rw [c9b0] | (simp only [i64_w, i32_w]; rw [c9b0]) | skip)
              have H' := Aside0.mk H
              clear H
              go_wp2
              go_meet
              case rel => exact ⟨_, (decide ((wrap64 (bt a0 a1)) < 224)), (by first | rfl | (simp; done) | (simp [*]; done)), H', ⟨by first | omega | exact Nat.le_refl _⟩, by repeat (first | exact Drawn0.refl _ | apply Drawn0.step)⟩
            · rw [if_neg c9] at H
              have c9b0 : decide (194 ≤ (wrap64 (bt a0 a1))) = false := decide_eq_false c9
              clear c9
              (first | rw [c9b0] | (simp only [i64_w, i32_w]; rw [c9b0]) | skip)
              have H' := Aside0.mk H
              clear H
              go_wp2
              go_meet
              case rel => exact ⟨_, (false), (by first | rfl | (simp; done) | (simp [*]; done)), H', ⟨by first | omega | exact Nat.le_refl _⟩, by repeat (first | exact Drawn0.refl _ | apply Drawn0.step)⟩
          case rest =>
            clear HC8
            try clear p2
            try clear c3
            try clear c3b0
            try clear c4
            try clear c4b0
            try clear p5
            try clear q5
            try clear hx5
            try clear p6
            try clear c7
            try clear c7b0
            try clear c9
            try clear c9b0
            try clear p5
            try clear q5
            obtain ⟨kq, x17_7, rfl, HA, HJ7, ⟨mc7, rfl⟩⟩ := hcut
            cases kq with
            | zero => exact absurd HA.out (by simp [spec_Point.j0])
            | succ kj7 =>
              have H := HA.out
              clear HA
              simp only [spec_Point.j0] at H
              by_cases c10 : x17_7 = true
              · subst c10
                have H1 : (spec_Point.j2 kj7 a0 a1 (wrap64 ((wrap64 (bt a0 a1)) - 192)) 2 128) = some (r1, r2) := by rw [if_pos rfl] at H; exact H
                clear H
                have H := H1
                clear H1
                have H' := Aside0.mk H
                clear H
                go_wp2
                go_meet
                case rel => exact ⟨_, (wrap64 ((wrap64 (bt a0 a1)) - 192)), (2), (128), (by first | rfl | (simp; done) | (simp [*]; done)), (by first | rfl | (simp; done) | (simp [*]; done)), (by first | rfl | (simp; done) | (simp [*]; done)), H', ⟨by have := HJ7.out; first | omega | exact Nat.le_refl _⟩, by repeat (first | exact Drawn0.refl _ | apply Drawn0.step)⟩
              · replace c10 := Bool.eq_false_iff.mpr c10
                subst c10
                have H1 : (if (wrap64 (bt a0 a1)) ≥ 224 then (spec_Point.j1 kj7 a0 a1 0 0 (wrap64 (bt a0 a1)) 0 (decide ((wrap64 (bt a0 a1)) < 240))) else (spec_Point.j1 kj7 a0 a1 0 0 (wrap64 (bt a0 a1)) 0 false)) = some (r1, r2) := by rw [if_neg (show ¬ (false = true) by decide)] at H; exact H
                clear H
                have H := H1
                clear H1
                have HC11 := Aside0.mk H
                clear H
                go_upto_region 7 with (fail)
                go_cut [26] (fun v26 wc => ∃ (kq : Nat) (x26_10 : Bool), v26 = .bool x26_10 ∧ Aside0 (spec_Point.j1 kq a0 a1 0 0 (wrap64 (bt a0 a1)) 0 x26_10 = some (r1, r2)) ∧ Aside0 (kq ≤ kj7) ∧ Drawn0 w wc)
                case first =>
                  have H := HC11.out
                  clear HC11
                  by_cases c12 : (wrap64 (bt a0 a1)) ≥ 224
                  · rw [if_pos c12] at H
                    have c12b0 : decide (224 ≤ (wrap64 (bt a0 a1))) = true := decide_eq_true c12
                    clear c12
                    (first | rw [c12b0] | (simp only [i64_w, i32_w]; rw [c12b0]) | skip)
                    have H' := Aside0.mk H
                    clear H
                    go_wp2
                    go_meet
                    case rel => exact ⟨_, (decide ((wrap64 (bt a0 a1)) < 240)), (by first | rfl | (simp; done) | (simp [*]; done)), H', ⟨by have := HJ7.out; first | omega | exact Nat.le_refl _⟩, by repeat (first | exact Drawn0.refl _ | apply Drawn0.step)⟩
                  · rw [if_neg c12] at H
                    have c12b0 : decide (224 ≤ (wrap64 (bt a0 a1))) = false := decide_eq_false c12
                    clear c12
                    (first | rw [c12b0] | (simp only [i64_w, i32_w]; rw [c12b0]) | skip)
                    have H' := Aside0.mk H
                    clear H
                    go_wp2
                    go_meet
                    case rel => exact ⟨_, (false), (by first | rfl | (simp; done) | (simp [*]; done)), H', ⟨by have := HJ7.out; first | omega | exact Nat.le_refl _⟩, by repeat (first | exact Drawn0.refl _ | apply Drawn0.step)⟩
                case rest =>
                  clear HC11
                  try clear c1
                  try clear p2
                  try clear c3
                  try clear c3b0
                  try clear c4
                  try clear c4b0
                  try clear p5
                  try clear q5
                  try clear hx5
                  try clear p6
                  try clear c7
                  try clear c7b0
                  try clear c9
                  try clear c9b0
                  try clear c10
                  try clear c12
                  try clear c12b0
                  try clear p2
                  try clear p5
                  try clear p6
                  try clear q5
                  obtain ⟨kq, x26_10, rfl, HA, HJ10, ⟨mc10, rfl⟩⟩ := hcut
                  cases kq with
                  | zero => exact absurd HA.out (by simp [spec_Point.j1])
                  | succ kj10 =>
                    have H := HA.out
                    clear HA
                    simp only [spec_Point.j1] at H
                    by_cases c13 : x26_10 = true
                    · subst c13
                      have H1 : (spec_Point.j2 kj10 a0 a1 (wrap64 ((wrap64 (bt a0 a1)) - 224)) 3 2048) = some (r1, r2) := by rw [if_pos rfl] at H; exact H
                      clear H
                      have H := H1
                      clear H1
                      have H' := Aside0.mk H
                      clear H
                      go_wp2
                      go_meet
                      case rel => exact ⟨_, (wrap64 ((wrap64 (bt a0 a1)) - 224)), (3), (2048), (by first | rfl | (simp; done) | (simp [*]; done)), (by first | rfl | (simp; done) | (simp [*]; done)), (by first | rfl | (simp; done) | (simp [*]; done)), H', ⟨by have := HJ7.out; have := HJ10.out; first | omega | exact Nat.le_refl _⟩, by repeat (first | exact Drawn0.refl _ | apply Drawn0.step)⟩
                    · replace c13 := Bool.eq_false_iff.mpr c13
                      subst c13
                      have H1 : (if (wrap64 (bt a0 a1)) ≥ 240 then (if (wrap64 (bt a0 a1)) < 245 then (spec_Point.j2 kj10 a0 a1 (wrap64 ((wrap64 (bt a0 a1)) - 240)) 4 65536) else (spec_Point.j2 kj10 a0 a1 0 0 0)) else (spec_Point.j2 kj10 a0 a1 0 0 0)) = some (r1, r2) := by rw [if_neg (show ¬ (false = true) by decide)] at H; exact H
                      clear H
                      have H := H1
                      clear H1
                      by_cases c14 : (wrap64 (bt a0 a1)) ≥ 240
                      · rw [if_pos c14] at H
                        have c14b0 : decide (240 ≤ (wrap64 (bt a0 a1))) = true := decide_eq_true c14
                        clear c14
                        by_cases c15 : (wrap64 (bt a0 a1)) < 245
                        · rw [if_pos c15] at H
                          have c15b0 : decide ((wrap64 (bt a0 a1)) < 245) = true := decide_eq_true c15
                          clear c15
                          have H' := Aside0.mk H
                          clear H
                          go_wp2
                          go_meet
                          case rel => exact ⟨_, (wrap64 ((wrap64 (bt a0 a1)) - 240)), (4), (65536), (by first | rfl | (simp; done) | (simp [*]; done)), (by first | rfl | (simp; done) | (simp [*]; done)), (by first | rfl | (simp; done) | (simp [*]; done)), H', ⟨by have := HJ7.out; have := HJ10.out; first | omega | exact Nat.le_refl _⟩, by repeat (first | exact Drawn0.refl _ | apply Drawn0.step)⟩
                        · rw [if_neg c15] at H
                          have c15b0 : decide ((wrap64 (bt a0 a1)) < 245) = false := decide_eq_false c15
                          clear c15
                          have H' := Aside0.mk H
                          clear H
                          go_wp2
                          go_meet
                          case rel => exact ⟨_, (0), (0), (0), (by first | rfl | (simp; done) | (simp [*]; done)), (by first | rfl | (simp; done) | (simp [*]; done)), (by first | rfl | (simp; done) | (simp [*]; done)), H', ⟨by have := HJ7.out; have := HJ10.out; first | omega | exact Nat.le_refl _⟩, by repeat (first | exact Drawn0.refl _ | apply Drawn0.step)⟩
                      · rw [if_neg c14] at H
                        have c14b0 : decide (240 ≤ (wrap64 (bt a0 a1))) = false := decide_eq_false c14
                        clear c14
                        have H' := Aside0.mk H
                        clear H
                        go_wp2
                        go_meet
                        case rel => exact ⟨_, (0), (0), (0), (by first | rfl | (simp; done) | (simp [*]; done)), (by first | rfl | (simp; done) | (simp [*]; done)), (by first | rfl | (simp; done) | (simp [*]; done)), H', ⟨by have := HJ7.out; have := HJ10.out; first | omega | exact Nat.le_refl _⟩, by repeat (first | exact Drawn0.refl _ | apply Drawn0.step)⟩
      case rest =>
        clear HC6
        try clear c1
        try clear p2
        try clear c3
        try clear c3b0
        try clear c4
        try clear c4b0
        try clear p5
        try clear q5
        try clear hx5
        try clear p6
        try clear c7
        try clear c7b0
        try clear c9
        try clear c9b0
        try clear c10
        try clear c12
        try clear c12b0
        try clear c13
        try clear c14
        try clear c14b0
        try clear c15
        try clear c15b0
        try clear p2
        try clear p5
        try clear p6
        try clear q5
        obtain ⟨kq, x4_5, x5_5, x7_5, rfl, rfl, rfl, HA, HJ5, ⟨mc5, rfl⟩⟩ := hcut
        cases kq with
        | zero => exact absurd HA.out (by simp [spec_Point.j2])
        | succ kj5 =>
          have H := HA.out
          clear HA
          simp only [spec_Point.j2] at H
          have HC16 := Aside0.mk H
          clear H
          go_upto_region 11 with (fail)
          go_cut [53] (fun v53 wc => ∃ (kq : Nat) (x53_15 : Bool), v53 = .bool x53_15 ∧ Aside0 (spec_Point.j3 kq a0 a1 x4_5 x5_5 x7_5 x53_15 = some (r1, r2)) ∧ Aside0 (kq ≤ kj5) ∧ Drawn0 w wc)
          case first =>
            have H := HC16.out
            clear HC16
            by_cases c17 : x5_5 = 0
            · rw [if_pos c17] at H
              have c17b0 : (x5_5 == 0) = true := beq_iff_eq.mpr c17
              have c17b1 : (x5_5 != 0) = false := bne_eq_false_iff_eq.mpr c17
              clear c17
              (first | rw [c17b0] | (simp only [i64_w, i32_w]; rw [c17b0]) | skip)
              have H' := Aside0.mk H
              clear H
              go_wp2
              go_meet
              case rel => exact ⟨_, (true), (by first | rfl | (simp; done) | (simp [*]; done)), H', ⟨by have := HJ5.out; first | omega | exact Nat.le_refl _⟩, by repeat (first | exact Drawn0.refl _ | apply Drawn0.step)⟩
            · rw [if_neg c17] at H
              have c17b0 : (x5_5 == 0) = false := beq_eq_false_iff_ne.mpr c17
              have c17b1 : (x5_5 != 0) = true := bne_iff_ne.mpr c17
              (first | rw [c17b0] | (simp only [i64_w, i32_w]; rw [c17b0]) | skip)
              have H' := Aside0.mk H
              clear H
              go_wp2
              go_meet
              case rel => exact ⟨_, (decide ((wrap64 (a1 + x5_5)) > (a0.size : Int))), (by first | rfl | (simp; done) | (simp [*]; done)), H', ⟨by have := HJ5.out; first | omega | exact Nat.le_refl _⟩, by repeat (first | exact Drawn0.refl _ | apply Drawn0.step)⟩
          case rest =>
            clear HC16
            try clear c1
            try clear p2
            try clear c3
            try clear c3b0
            try clear c4
            try clear c4b0
            try clear c5
            try clear p5
            try clear q5
            try clear hx5
            try clear p6
            try clear c7
            try clear c7b0
            try clear c9
            try clear c9b0
            try clear c10
            try clear c12
            try clear c12b0
            try clear c13
            try clear c14
            try clear c14b0
            try clear c15
            try clear c15b0
            try clear c17
            try clear c17b0
            try clear c17b1
            try clear p2
            try clear p5
            try clear p6
            try clear q5
            obtain ⟨kq, x53_15, rfl, HA, HJ15, ⟨mc15, rfl⟩⟩ := hcut
            cases kq with
            | zero => exact absurd HA.out (by simp [spec_Point.j3])
            | succ kj15 =>
              have H := HA.out
              clear HA
              simp only [spec_Point.j3] at H
              by_cases c18 : x53_15 = true
              · subst c18
                have H1 : (some (0, 0)) = some (r1, r2) := by rw [if_pos rfl] at H; exact H
                clear H
                have H := H1
                clear H1
                simp only [Option.some.injEq, Prod.mk.injEq] at H
                obtain ⟨rfl, rfl⟩ := H
                go_wp2
                go_ret2
                exact ⟨by first | rfl | (simp; done) | (simp [*]; done), by repeat (first | exact Drawn0.refl _ | apply Drawn0.step)⟩
              · replace c18 := Bool.eq_false_iff.mpr c18
                subst c18
                have H1 : (spec_Point.l0 kj15 a0 a1 x4_5 x5_5 x7_5 (wrap64 (a1 + 1))) = some (r1, r2) := by rw [if_neg (show ¬ (false = true) by decide)] at H; exact H
                clear H
                have H := H1
                clear H1
                have H' := Aside0.mk H
                clear H
                go_wp2
                go_loopg [4, 5, 8] kj15 (fun kq v4 v5 v8 w' => ∃ (x4_3 : Int) (x5_3 : Int) (x8_3 : Int), v4 = .int .i64 x4_3 ∧ v5 = .int .i64 x5_3 ∧ v8 = .int .i64 x8_3 ∧ Aside0 (spec_Point.l0 kq a0 a1 x4_3 x5_3 x7_5 x8_3 = some (r1, r2)) ∧ Aside0 (kq ≤ kj15) ∧ Drawn0 w w')
                case atStart => exact ⟨(x4_5), (x5_5), (wrap64 (a1 + 1)), (by first | rfl | (simp; done) | (simp [*]; done)), (by first | rfl | (simp; done) | (simp [*]; done)), (by first | rfl | (simp; done) | (simp [*]; done)), H', ⟨Nat.le_refl _⟩, by repeat (first | exact Drawn0.refl _ | apply Drawn0.step)⟩
                case round =>
                  clear H'
                  try clear c1
                  try clear p2
                  try clear c3
                  try clear c3b0
                  try clear c4
                  try clear c4b0
                  try clear c5
                  try clear p5
                  try clear q5
                  try clear hx5
                  try clear p6
                  try clear c7
                  try clear c7b0
                  try clear c9
                  try clear c9b0
                  try clear c10
                  try clear c12
                  try clear c12b0
                  try clear c13
                  try clear c14
                  try clear c14b0
                  try clear c15
                  try clear c15b0
                  try clear c17
                  try clear c17b0
                  try clear c17b1
                  try clear c18
                  try clear p2
                  try clear p5
                  try clear p6
                  try clear q5
                  obtain ⟨x4_3, x5_3, x8_3, rfl, rfl, rfl, HA, HK3, ⟨m3, rfl⟩⟩ := hrel
                  cases gk with
                  | zero => exact absurd HA.out (by simp [spec_Point.l0])
                  | succ k3 =>
                    have H := HA.out
                    clear HA
                    simp only [spec_Point.l0] at H
                    by_cases c19 : x8_3 < (wrap64 (a1 + x5_3))
                    · rw [if_pos c19] at H
                      have c19b0 : decide (x8_3 < (wrap64 (a1 + x5_3))) = true := decide_eq_true c19
                      clear c19
                      by_cases c20 : 0 ≤ x8_3
                      · rw [if_pos c20] at H
                        have c20b0 : decide (0 ≤ x8_3) = true := decide_eq_true c20
                        clear c20
                        by_cases c21 : x8_3 < (a0.size : Int)
                        · rw [if_pos c21] at H
                          have c21b0 : decide (x8_3 < (a0.size : Int)) = true := decide_eq_true c21
                          clear c21
                          by_cases c23 : (bt a0 x8_3) < 128
                          · rw [if_pos c23] at H
                            have c23b0 : decide ((bt a0 x8_3) < 128) = true := decide_eq_true c23
                            clear c23
                            simp only [Option.some.injEq, Prod.mk.injEq] at H
                            obtain ⟨rfl, rfl⟩ := H
                            have p22 : 0 ≤ (x8_3 : Int) := of_decide_eq_true (by first | (with_reducible assumption) | assumption)
                            have q22 : x8_3 < (a0.size : Int) := of_decide_eq_true (by first | (with_reducible assumption) | assumption)
                            have hx22 := bt_at a0 x8_3
                            replace p22 := eq_true p22
                            replace q22 := eq_true q22
                            go_wp2
                            go_ret2
                            exact ⟨by first | rfl | (simp; done) | (simp [*]; done), by repeat (first | exact Drawn0.refl _ | apply Drawn0.step)⟩
                          · rw [if_neg c23] at H
                            have c23b0 : decide ((bt a0 x8_3) < 128) = false := decide_eq_false c23
                            clear c23
                            by_cases c25 : (bt a0 x8_3) > 191
                            · rw [if_pos c25] at H
                              have c25b0 : decide (191 < (bt a0 x8_3)) = true := decide_eq_true c25
                              clear c25
                              simp only [Option.some.injEq, Prod.mk.injEq] at H
                              obtain ⟨rfl, rfl⟩ := H
                              have p22 : 0 ≤ (x8_3 : Int) := of_decide_eq_true (by first | (with_reducible assumption) | assumption)
                              have q22 : x8_3 < (a0.size : Int) := of_decide_eq_true (by first | (with_reducible assumption) | assumption)
                              have hx22 := bt_at a0 x8_3
                              replace p22 := eq_true p22
                              replace q22 := eq_true q22
                              have p24 : 0 ≤ (x8_3 : Int) := of_decide_eq_true (by first | (with_reducible assumption) | assumption)
                              have q24 : x8_3 < (a0.size : Int) := of_decide_eq_true (by first | (with_reducible assumption) | assumption)
                              have hx24 := bt_at a0 x8_3
                              replace p24 := eq_true p24
                              replace q24 := eq_true q24
                              go_wp2
                              go_ret2
                              exact ⟨by first | rfl | (simp; done) | (simp [*]; done), by repeat (first | exact Drawn0.refl _ | apply Drawn0.step)⟩
                            · rw [if_neg c25] at H
                              have c25b0 : decide (191 < (bt a0 x8_3)) = false := decide_eq_false c25
                              clear c25
                              have H' := Aside0.mk H
                              clear H
                              have p22 : 0 ≤ (x8_3 : Int) := of_decide_eq_true (by first | (with_reducible assumption) | assumption)
                              have q22 : x8_3 < (a0.size : Int) := of_decide_eq_true (by first | (with_reducible assumption) | assumption)
                              have hx22 := bt_at a0 x8_3
                              replace p22 := eq_true p22
                              replace q22 := eq_true q22
                              have p24 : 0 ≤ (x8_3 : Int) := of_decide_eq_true (by first | (with_reducible assumption) | assumption)
                              have q24 : x8_3 < (a0.size : Int) := of_decide_eq_true (by first | (with_reducible assumption) | assumption)
                              have hx24 := bt_at a0 x8_3
                              replace p24 := eq_true p24
                              replace q24 := eq_true q24
                              have p26 : 0 ≤ (x8_3 : Int) := of_decide_eq_true (by first | (with_reducible assumption) | assumption)
                              have q26 : x8_3 < (a0.size : Int) := of_decide_eq_true (by first | (with_reducible assumption) | assumption)
                              have hx26 := bt_at a0 x8_3
                              replace p26 := eq_true p26
                              replace q26 := eq_true q26
                              go_wp2
                              go_roundg k3
                              case measure => have := HJ5.out; have := HJ15.out; have := HK3.out; omega
                              case rel => exact ⟨(wrap64 ((wrap64 ((wrap64 (x4_3 * 64)) + (wrap64 (bt a0 x8_3)))) - 128)), (x5_3), (wrap64 (x8_3 + 1)), (by first | rfl | (simp; done) | (simp [*]; done)), (by first | rfl | (simp; done) | (simp [*]; done)), (by first | rfl | (simp; done) | (simp [*]; done)), H', ⟨by have := HJ5.out; have := HJ15.out; have := HK3.out; omega⟩, by repeat (first | exact Drawn0.refl _ | apply Drawn0.step)⟩
                        · rw [if_neg c21] at H
                          exact absurd H (by simp)
                      · rw [if_neg c20] at H
                        exact absurd H (by simp)
                    · rw [if_neg c19] at H
                      have c19b0 : decide (x8_3 < (wrap64 (a1 + x5_3))) = false := decide_eq_false c19
                      clear c19
                      by_cases c27 : x4_3 < x7_5
                      · rw [if_pos c27] at H
                        have c27b0 : decide (x4_3 < x7_5) = true := decide_eq_true c27
                        clear c27
                        simp only [Option.some.injEq, Prod.mk.injEq] at H
                        obtain ⟨rfl, rfl⟩ := H
                        go_wp2
                        go_ret2
                        exact ⟨by first | rfl | (simp; done) | (simp [*]; done), by repeat (first | exact Drawn0.refl _ | apply Drawn0.step)⟩
                      · rw [if_neg c27] at H
                        have c27b0 : decide (x4_3 < x7_5) = false := decide_eq_false c27
                        clear c27
                        by_cases c28 : x4_3 > 1114111
                        · rw [if_pos c28] at H
                          have c28b0 : decide (1114111 < x4_3) = true := decide_eq_true c28
                          clear c28
                          simp only [Option.some.injEq, Prod.mk.injEq] at H
                          obtain ⟨rfl, rfl⟩ := H
                          go_wp2
                          go_ret2
                          exact ⟨by first | rfl | (simp; done) | (simp [*]; done), by repeat (first | exact Drawn0.refl _ | apply Drawn0.step)⟩
                        · rw [if_neg c28] at H
                          have c28b0 : decide (1114111 < x4_3) = false := decide_eq_false c28
                          clear c28
                          by_cases c29 : x4_3 ≥ 55296
                          · rw [if_pos c29] at H
                            have c29b0 : decide (55296 ≤ x4_3) = true := decide_eq_true c29
                            clear c29
                            by_cases c30 : x4_3 < 57344
                            · rw [if_pos c30] at H
                              have c30b0 : decide (x4_3 < 57344) = true := decide_eq_true c30
                              clear c30
                              simp only [Option.some.injEq, Prod.mk.injEq] at H
                              obtain ⟨rfl, rfl⟩ := H
                              go_wp2
                              go_ret2
                              exact ⟨by first | rfl | (simp; done) | (simp [*]; done), by repeat (first | exact Drawn0.refl _ | apply Drawn0.step)⟩
                            · rw [if_neg c30] at H
                              have c30b0 : decide (x4_3 < 57344) = false := decide_eq_false c30
                              clear c30
                              simp only [Option.some.injEq, Prod.mk.injEq] at H
                              obtain ⟨rfl, rfl⟩ := H
                              go_wp2
                              go_ret2
                              exact ⟨by first | rfl | (simp; done) | (simp [*]; done), by repeat (first | exact Drawn0.refl _ | apply Drawn0.step)⟩
                          · rw [if_neg c29] at H
                            have c29b0 : decide (55296 ≤ x4_3) = false := decide_eq_false c29
                            clear c29
                            simp only [Option.some.injEq, Prod.mk.injEq] at H
                            obtain ⟨rfl, rfl⟩ := H
                            go_wp2
                            go_ret2
                            exact ⟨by first | rfl | (simp; done) | (simp [*]; done), by repeat (first | exact Drawn0.refl _ | apply Drawn0.step)⟩
    · rw [if_neg c4] at H
      exact absurd H (by simp)
  · rw [if_neg c3] at H
    exact absurd H (by simp)

-- NOT PRINTED: function 53 (spec_lexer_add)

/-- A state of type 67 at block g of W; what its slices lead to came in by w0. -/
def IsS67 (w0 W : World) (g : Nat) (f0 : ByteArray) (f1 : Int) (f2 : List (S24)) (f3 : Bool) (f4 : Bool) : Prop := ∃ A2 c2, W.heap[g]? = some (.cells #[.string f0, .int .i64 f1, .slice A2 f2.length c2, .bool f3, .bool f4] 67 (0, 0)) ∧ w0.heap.size ≤ g ∧ Kd.C k24 w0 A2 f2.length f2
theorem IsS67.grown {w0 W : World} {g : Nat} {f0 : ByteArray} {f1 : Int} {f2 : List (S24)} {f3 : Bool} {f4 : Bool} {W1 : World} {row : Option Nat} (h : IsS67 w0 W g f0 f1 f2 f3 f4) (hw : W.grownBy W1 row) (hne : some g ≠ row) : IsS67 w0 W1 g f0 f1 f2 f3 f4 := by
  obtain ⟨A2, c2, hb, hg, hr2⟩ := h
  exact ⟨A2, c2, blk_grown hb hw hne, hg, hr2⟩
theorem IsS67.own_neN {w0 W : World} {g : Nat} {f0 : ByteArray} {f1 : Int} {f2 : List (S24)} {f3 : Bool} {f4 : Bool} {α : Type} {d : Kd α} {e : Nat} {base : Nat} {ok : Nat → Prop} {v : Value} {xs : List α} (h : IsS67 w0 W g f0 f1 f2 f3 f4) (ho : Kd.N d e W base ok v xs) (ht : e ≠ 67) : some g ≠ v.ownBlock := by
  obtain ⟨A2, c2, hb, hg, hr2⟩ := h
  exact Kd.N_ne ho hb ht
theorem IsS67.fresh {w0 W : World} {g : Nat} {f0 : ByteArray} {f1 : Int} {f2 : List (S24)} {f3 : Bool} {f4 : Bool} (h : IsS67 w0 W g f0 f1 f2 f3 f4) : ∀ k, W.heap.size ≤ k → k ≠ g := by
  obtain ⟨A2, c2, hb, hg, hr2⟩ := h
  exact Kd.freshB hb
theorem IsS67.kept {w0 W : World} {g : Nat} {f0 : ByteArray} {f1 : Int} {f2 : List (S24)} {f3 : Bool} {f4 : Bool} {W1 : World} {S : Nat → Prop} (h : IsS67 w0 W g f0 f1 f2 f3 f4) (hk : Kept W W1 S) (hne : ¬ S g) : IsS67 w0 W1 g f0 f1 f2 f3 f4 := by
  obtain ⟨A2, c2, hb, hg, hr2⟩ := h
  exact ⟨A2, c2, blk_kept hb hk hne, hg, hr2⟩
theorem IsS67.below {w0 W : World} {g : Nat} {f0 : ByteArray} {f1 : Int} {f2 : List (S24)} {f3 : Bool} {f4 : Bool} {W1 : World} (h : IsS67 w0 W g f0 f1 f2 f3 f4) (hw : Below W.heap.size W W1) : IsS67 w0 W1 g f0 f1 f2 f3 f4 := h.grown (grown_of_below hw none) (by simp)
theorem IsS67.alloc {w0 W : World} {g : Nat} {f0 : ByteArray} {f1 : Int} {f2 : List (S24)} {f3 : Bool} {f4 : Bool} (h : IsS67 w0 W g f0 f1 f2 f3 f4) (o : Obj) : IsS67 w0 (W.alloc o) g f0 f1 f2 f3 f4 := h.below (below_alloc (Below.refl _ _) o)
theorem IsS67.drewN {w0 W : World} {g : Nat} {f0 : ByteArray} {f1 : Int} {f2 : List (S24)} {f3 : Bool} {f4 : Bool} (h : IsS67 w0 W g f0 f1 f2 f3 f4) (m : Nat) : IsS67 w0 (W.drewN m) g f0 f1 f2 f3 f4 := h
theorem IsS67.drew {w0 W : World} {g : Nat} {f0 : ByteArray} {f1 : Int} {f2 : List (S24)} {f3 : Bool} {f4 : Bool} (h : IsS67 w0 W g f0 f1 f2 f3 f4) : IsS67 w0 W.drew g f0 f1 f2 f3 f4 := h
theorem IsS67.at_ {w0 W : World} {g : Nat} {f0 : ByteArray} {f1 : Int} {f2 : List (S24)} {f3 : Bool} {f4 : Bool} {w' : World} {m : Nat} (hq : W.drewN m = w') (h : IsS67 w0 W g f0 f1 f2 f3 f4) : IsS67 w0 w' g f0 f1 f2 f3 f4 := by subst hq; exact IsS67.drewN h m
theorem IsS67.apart {w0 W : World} {g : Nat} {f0 : ByteArray} {f1 : Int} {f2 : List (S24)} {f3 : Bool} {f4 : Bool} {α : Type} {d : Kd α} {e : Nat} {base : Nat} {ok : Nat → Prop} {v : Value} {xs : List α} (h : IsS67 w0 W g f0 f1 f2 f3 f4) (ho : d.R e W base ok v xs) (ht : ∀ q, q ∈ e :: d.E → q ≠ 67) : d.R e W base (fun k => ok k ∧ k ≠ g) v xs := by
  obtain ⟨A2, c2, hb, hg, hr2⟩ := h
  exact Kd.R_types ho hb ht
theorem IsS67.own_ne {w0 W : World} {g : Nat} {f0 : ByteArray} {f1 : Int} {f2 : List (S24)} {f3 : Bool} {f4 : Bool} {α : Type} {d : Kd α} {e : Nat} {base : Nat} {ok : Nat → Prop} {v : Value} {xs : List α} (h : IsS67 w0 W g f0 f1 f2 f3 f4) (ho : d.R e W base ok v xs) (ht : e ≠ 67) : some g ≠ v.ownBlock := by
  obtain ⟨A2, c2, hb, hg, hr2⟩ := h
  exact Kd.R_ne ho hb ht
theorem IsS67.apartQ {w0 W : World} {g : Nat} {f0 : ByteArray} {f1 : Int} {f2 : List (S24)} {f3 : Bool} {f4 : Bool} {α : Type} {d : Kd α} {e : Nat} {base : Nat} {ok : Nat → Prop} {v : Value} {xs : List α} (h : IsS67 w0 W g f0 f1 f2 f3 f4) (ho : d.Q e W base ok v xs) (ht : ∀ q, q ∈ e :: d.E → q ≠ 67) : d.Q e W base (fun k => ok k ∧ k ≠ g) v xs := by
  obtain ⟨A2, c2, hb, hg, hr2⟩ := h
  exact Kd.Q_types ho hb ht
theorem IsS67.own_neQ {w0 W : World} {g : Nat} {f0 : ByteArray} {f1 : Int} {f2 : List (S24)} {f3 : Bool} {f4 : Bool} {α : Type} {d : Kd α} {e : Nat} {base : Nat} {ok : Nat → Prop} {v : Value} {xs : List α} (h : IsS67 w0 W g f0 f1 f2 f3 f4) (ho : d.Q e W base ok v xs) (ht : e ≠ 67) : some g ≠ v.ownBlock := by
  obtain ⟨A2, c2, hb, hg, hr2⟩ := h
  exact Kd.Q_ne ho hb ht
theorem IsS67.apartS {w0 W : World} {g : Nat} {f0 : ByteArray} {f1 : Int} {f2 : List (S24)} {f3 : Bool} {f4 : Bool} {α : Type} {d : Kd α} {e : Nat} {base : Nat} {ok : Nat → Prop} {v : Value} {xs : List α} (h : IsS67 w0 W g f0 f1 f2 f3 f4) (ho : d.S e W base ok v xs) (ht : ∀ q, q ∈ e :: d.E → q ≠ 67) : d.S e W base (fun k => ok k ∧ k ≠ g) v xs := by
  obtain ⟨A2, c2, hb, hg, hr2⟩ := h
  exact Kd.S_types ho hb ht
theorem IsS67.own_neS {w0 W : World} {g : Nat} {f0 : ByteArray} {f1 : Int} {f2 : List (S24)} {f3 : Bool} {f4 : Bool} {α : Type} {d : Kd α} {e : Nat} {base : Nat} {ok : Nat → Prop} {v : Value} {xs : List α} (h : IsS67 w0 W g f0 f1 f2 f3 f4) (ho : d.S e W base ok v xs) (ht : e ≠ 67) : some g ≠ v.ownBlock := by
  obtain ⟨A2, c2, hb, hg, hr2⟩ := h
  exact Kd.S_ne ho hb ht
theorem IsS67.lt {w0 W : World} {g : Nat} {f0 : ByteArray} {f1 : Int} {f2 : List (S24)} {f3 : Bool} {f4 : Bool} (h : IsS67 w0 W g f0 f1 f2 f3 f4) : g < W.heap.size := by
  obtain ⟨A2, c2, hb, hg, hr2⟩ := h
  exact blk_lt hb
theorem IsS67.ge {w0 W : World} {g : Nat} {f0 : ByteArray} {f1 : Int} {f2 : List (S24)} {f3 : Bool} {f4 : Bool} (h : IsS67 w0 W g f0 f1 f2 f3 f4) : w0.heap.size ≤ g := by
  obtain ⟨A2, c2, hb, hg, hr2⟩ := h
  exact hg
theorem IsS67.ne_blk {w0 W : World} {g : Nat} {f0 : ByteArray} {f1 : Int} {f2 : List (S24)} {f3 : Bool} {f4 : Bool} {a : Nat} {cs : Array Value} {t : TypeId} {fr : Nat × Nat} (h : IsS67 w0 W g f0 f1 f2 f3 f4) (hb2 : W.heap[a]? = some (.cells cs t fr)) (ht : t ≠ 67) : g ≠ a := by
  obtain ⟨A2, c2, hb, hg, hr2⟩ := h
  rintro rfl
  rw [hb] at hb2
  injection hb2 with hb2
  injection hb2 with _ ht2
  exact ht ht2.symm
theorem IsS67.far {w0 W : World} {g : Nat} {f0 : ByteArray} {f1 : Int} {f2 : List (S24)} {f3 : Bool} {f4 : Bool} {p : Addr} (h : IsS67 w0 W g f0 f1 f2 f3 f4) (hne : g ≠ p.block) (u : Value) : IsS67 w0 (W.setCell p u) g f0 f1 f2 f3 f4 := by
  obtain ⟨A2, c2, hb, hg, hr2⟩ := h
  exact ⟨A2, c2, blk_far hb hne u, hg, hr2⟩
theorem cellS67_0 {W : World} {g : Nat} {A2 : Option Addr} {c2 : Nat} {f0 : ByteArray} {f1 : Int} {f2 : List (S24)} {f3 : Bool} {f4 : Bool} (h : W.heap[g]? = some (.cells #[.string f0, .int .i64 f1, .slice A2 f2.length c2, .bool f3, .bool f4] 67 (0, 0))) : W.cell? ⟨g, 0, none⟩ = some (.string f0) := (blk_cell h 0).trans rfl
theorem IsS67.set_0 {w0 W : World} {g : Nat} {f0 : ByteArray} {f1 : Int} {f2 : List (S24)} {f3 : Bool} {f4 : Bool} (h : IsS67 w0 W g f0 f1 f2 f3 f4) (x : ByteArray) : IsS67 w0 (W.setCell ⟨g, 0, none⟩ (.string x)) g x f1 f2 f3 f4 := by
  obtain ⟨A2, c2, hb, hg, hr2⟩ := h
  exact ⟨A2, c2, by simpa using blk_set hb 0 (.string x), hg, hr2⟩
theorem cellS67_1 {W : World} {g : Nat} {A2 : Option Addr} {c2 : Nat} {f0 : ByteArray} {f1 : Int} {f2 : List (S24)} {f3 : Bool} {f4 : Bool} (h : W.heap[g]? = some (.cells #[.string f0, .int .i64 f1, .slice A2 f2.length c2, .bool f3, .bool f4] 67 (0, 0))) : W.cell? ⟨g, 1, none⟩ = some (.int .i64 f1) := (blk_cell h 1).trans rfl
theorem IsS67.set_1 {w0 W : World} {g : Nat} {f0 : ByteArray} {f1 : Int} {f2 : List (S24)} {f3 : Bool} {f4 : Bool} (h : IsS67 w0 W g f0 f1 f2 f3 f4) (x : Int) : IsS67 w0 (W.setCell ⟨g, 1, none⟩ (.int .i64 x)) g f0 x f2 f3 f4 := by
  obtain ⟨A2, c2, hb, hg, hr2⟩ := h
  exact ⟨A2, c2, by simpa using blk_set hb 1 (.int .i64 x), hg, hr2⟩
theorem cellS67_2 {W : World} {g : Nat} {A2 : Option Addr} {c2 : Nat} {f0 : ByteArray} {f1 : Int} {f2 : List (S24)} {f3 : Bool} {f4 : Bool} (h : W.heap[g]? = some (.cells #[.string f0, .int .i64 f1, .slice A2 f2.length c2, .bool f3, .bool f4] 67 (0, 0))) : W.cell? ⟨g, 2, none⟩ = some (.slice A2 f2.length c2) := (blk_cell h 2).trans rfl
theorem cellS67_3 {W : World} {g : Nat} {A2 : Option Addr} {c2 : Nat} {f0 : ByteArray} {f1 : Int} {f2 : List (S24)} {f3 : Bool} {f4 : Bool} (h : W.heap[g]? = some (.cells #[.string f0, .int .i64 f1, .slice A2 f2.length c2, .bool f3, .bool f4] 67 (0, 0))) : W.cell? ⟨g, 3, none⟩ = some (.bool f3) := (blk_cell h 3).trans rfl
theorem IsS67.set_3 {w0 W : World} {g : Nat} {f0 : ByteArray} {f1 : Int} {f2 : List (S24)} {f3 : Bool} {f4 : Bool} (h : IsS67 w0 W g f0 f1 f2 f3 f4) (x : Bool) : IsS67 w0 (W.setCell ⟨g, 3, none⟩ (.bool x)) g f0 f1 f2 x f4 := by
  obtain ⟨A2, c2, hb, hg, hr2⟩ := h
  exact ⟨A2, c2, by simpa using blk_set hb 3 (.bool x), hg, hr2⟩
theorem cellS67_4 {W : World} {g : Nat} {A2 : Option Addr} {c2 : Nat} {f0 : ByteArray} {f1 : Int} {f2 : List (S24)} {f3 : Bool} {f4 : Bool} (h : W.heap[g]? = some (.cells #[.string f0, .int .i64 f1, .slice A2 f2.length c2, .bool f3, .bool f4] 67 (0, 0))) : W.cell? ⟨g, 4, none⟩ = some (.bool f4) := (blk_cell h 4).trans rfl
theorem IsS67.set_4 {w0 W : World} {g : Nat} {f0 : ByteArray} {f1 : Int} {f2 : List (S24)} {f3 : Bool} {f4 : Bool} (h : IsS67 w0 W g f0 f1 f2 f3 f4) (x : Bool) : IsS67 w0 (W.setCell ⟨g, 4, none⟩ (.bool x)) g f0 f1 f2 f3 x := by
  obtain ⟨A2, c2, hb, hg, hr2⟩ := h
  exact ⟨A2, c2, by simpa using blk_set hb 4 (.bool x), hg, hr2⟩
theorem IsS67.new (w0 W : World) (A2 : Option Addr) (c2 : Nat) (f0 : ByteArray) (f1 : Int) (f2 : List (S24)) (f3 : Bool) (f4 : Bool) (hB : Below w0.heap.size w0 W) (hr2 : Kd.C k24 w0 A2 f2.length f2) : IsS67 w0 (W.alloc (.cells #[.string f0, .int .i64 f1, .slice A2 f2.length c2, .bool f3, .bool f4] 67)) W.heap.size f0 f1 f2 f3 f4 := ⟨A2, c2, by simpa using heap_alloc_new W _, hB.size, hr2⟩

/-! ### spec_lexer_fail: function 54 -/
def spec_lexer_fail.f (s0_0 : ByteArray) (s0_1 : Int) (s0_2 : List (S24)) (s0_3 : Bool) (s0_4 : Bool) : Option (ByteArray × Int × Bool × Bool) := some (s0_0, s0_1, true, s0_4)
set_option maxHeartbeats 8000000 in
set_option maxRecDepth 100000 in
theorem spec_lexer_fail.calls (g : Nat) (s0_0 : ByteArray) (s0_1 : Int) (s0_2 : List (S24)) (s0_3 : Bool) (s0_4 : Bool) (r1 : ByteArray) (r2 : Int) (r3 : Bool) (r4 : Bool) (w0 w : World) (hI : IsS67 w0 w g s0_0 s0_1 s0_2 s0_3 s0_4) (hB : Below w0.heap.size w0 w) (h : spec_lexer_fail.f s0_0 s0_1 s0_2 s0_3 s0_4 = some (r1, r2, r3, r4)) :
    Calls Tryz.prog 54 #[.pointer (some ⟨g, 0, none⟩)] w fun e w' => e = .returned (.tuple #[]) ∧ IsS67 w0 w' g r1 r2 s0_2 r3 r4 ∧ Below w0.heap.size w0 w' ∧ KeepBut w w' g none := by
  have HI0 := Aside0.mk hI
  have HK := Aside0.mk (KeepBut.refl w g none)
  have HL := Aside0.mk hB.size
  clear hI
  have HW0 := Aside0.mk hB.size
  have HB := Aside0.mk hB
  clear hB
  have H : (some (s0_0, s0_1, true, s0_4)) = some (r1, r2, r3, r4) := h
  clear h
  simp only [Option.some.injEq, Prod.mk.injEq] at H
  obtain ⟨rfl, rfl, rfl, rfl⟩ := H
  obtain ⟨ASz2_2, cSz2_2, HGz2, hgz2, HSz2_2⟩ := HI0.out
  have hcz2_0 := cellS67_0 HGz2
  have hcz2_1 := cellS67_1 HGz2
  have hcz2_2 := cellS67_2 HGz2
  have hcz2_3 := cellS67_3 HGz2
  have hcz2_4 := cellS67_4 HGz2
  have hfz2_0 := blk_frozen HGz2 0
  have hfz2_1 := blk_frozen HGz2 1
  have hfz2_3 := blk_frozen HGz2 3
  have hfz2_4 := blk_frozen HGz2 4
  clear HGz2 hgz2
  go_enter Tryz.func54, Tryz.ntmps54
  go_wp2
  first | go_end0 | ((try simp only [Exit.inBlock, Exit.then]); refine bodyPost_ret (results_none rfl _ _ _) rfl ?_)
  exact ⟨by first | rfl | (simp [errW_none, errW_some] <;> rfl) | (simp [*, errW_none, errW_some] <;> rfl), by repeat (first | (with_reducible first | exact HI0.out | apply IsS67.alloc | apply IsS67.drewN | apply IsS67.drew | apply IsS67.set_0 | apply IsS67.set_1 | apply IsS67.set_3 | apply IsS67.set_4) | exact HI0.out), by repeat (first | (with_reducible first | exact HB.out | apply below_alloc | apply pw_below_drewN | apply below_drew1 | refine below_set ?_ (IsS67.ge HI0.out)) | exact HB.out), by repeat (first | (with_reducible first | exact HK.out | apply KeepBut.set_ | apply keep_drewN | apply keep_drew | apply keep_alloc) | exact HK.out)⟩

/-! ### spec_lexer_next: function 62 -/
def spec_lexer_next.f (s0_0 : ByteArray) (s0_1 : Int) (s0_2 : List (S24)) (s0_3 : Bool) (s0_4 : Bool) (a1 : Int) : Option (Int × ByteArray × Int × Bool × Bool) := if a1 ≥ (s0_0.size : Int) then (some (0, s0_0, s0_1, s0_3, s0_4)) else (if 0 ≤ a1 then (if a1 < (s0_0.size : Int) then (some (bt s0_0 a1, s0_0, s0_1, s0_3, s0_4)) else (none)) else (none))
set_option maxHeartbeats 8000000 in
set_option maxRecDepth 100000 in
theorem spec_lexer_next.calls (g : Nat) (s0_0 : ByteArray) (s0_1 : Int) (s0_2 : List (S24)) (s0_3 : Bool) (s0_4 : Bool) (a1 : Int) (r1 : Int) (r2 : ByteArray) (r3 : Int) (r4 : Bool) (r5 : Bool) (w0 w : World) (hI : IsS67 w0 w g s0_0 s0_1 s0_2 s0_3 s0_4) (hB : Below w0.heap.size w0 w) (h : spec_lexer_next.f s0_0 s0_1 s0_2 s0_3 s0_4 a1 = some (r1, r2, r3, r4, r5)) :
    Calls Tryz.prog 62 #[.pointer (some ⟨g, 0, none⟩), .int .i64 a1] w fun e w' => e = .returned (.int .u8 r1) ∧ IsS67 w0 w' g r2 r3 s0_2 r4 r5 ∧ Below w0.heap.size w0 w' ∧ KeepBut w w' g none := by
  have HI0 := Aside0.mk hI
  have HK := Aside0.mk (KeepBut.refl w g none)
  have HL := Aside0.mk hB.size
  clear hI
  have HW0 := Aside0.mk hB.size
  have HB := Aside0.mk hB
  clear hB
  have H : (if a1 ≥ (s0_0.size : Int) then (some (0, s0_0, s0_1, s0_3, s0_4)) else (if 0 ≤ a1 then (if a1 < (s0_0.size : Int) then (some (bt s0_0 a1, s0_0, s0_1, s0_3, s0_4)) else (none)) else (none))) = some (r1, r2, r3, r4, r5) := h
  clear h
  by_cases c3 : a1 ≥ (s0_0.size : Int)
  · rw [if_pos c3] at H
    have c3b0 : decide ((s0_0.size : Int) ≤ a1) = true := decide_eq_true c3
    clear c3
    simp only [Option.some.injEq, Prod.mk.injEq] at H
    obtain ⟨rfl, rfl, rfl, rfl, rfl⟩ := H
    obtain ⟨ASz4_2, cSz4_2, HGz4, hgz4, HSz4_2⟩ := HI0.out
    have hcz4_0 := cellS67_0 HGz4
    have hcz4_1 := cellS67_1 HGz4
    have hcz4_2 := cellS67_2 HGz4
    have hcz4_3 := cellS67_3 HGz4
    have hcz4_4 := cellS67_4 HGz4
    have hfz4_0 := blk_frozen HGz4 0
    have hfz4_1 := blk_frozen HGz4 1
    have hfz4_3 := blk_frozen HGz4 3
    have hfz4_4 := blk_frozen HGz4 4
    clear HGz4 hgz4
    go_enter Tryz.func62, Tryz.ntmps62
    go_wp2
    go_ret
    exact ⟨by first | rfl | (simp [errW_none, errW_some] <;> rfl) | (simp [*, errW_none, errW_some] <;> rfl), by repeat (first | (with_reducible first | exact HI0.out | apply IsS67.alloc | apply IsS67.drewN | apply IsS67.drew | apply IsS67.set_0 | apply IsS67.set_1 | apply IsS67.set_3 | apply IsS67.set_4) | exact HI0.out), by repeat (first | (with_reducible first | exact HB.out | apply below_alloc | apply pw_below_drewN | apply below_drew1 | refine below_set ?_ (IsS67.ge HI0.out)) | exact HB.out), by repeat (first | (with_reducible first | exact HK.out | apply KeepBut.set_ | apply keep_drewN | apply keep_drew | apply keep_alloc) | exact HK.out)⟩
  · rw [if_neg c3] at H
    have c3b0 : decide ((s0_0.size : Int) ≤ a1) = false := decide_eq_false c3
    clear c3
    by_cases c5 : 0 ≤ a1
    · rw [if_pos c5] at H
      have c5b0 : decide (0 ≤ a1) = true := decide_eq_true c5
      clear c5
      by_cases c6 : a1 < (s0_0.size : Int)
      · rw [if_pos c6] at H
        have c6b0 : decide (a1 < (s0_0.size : Int)) = true := decide_eq_true c6
        clear c6
        simp only [Option.some.injEq, Prod.mk.injEq] at H
        obtain ⟨rfl, rfl, rfl, rfl, rfl⟩ := H
        obtain ⟨ASz8_2, cSz8_2, HGz8, hgz8, HSz8_2⟩ := HI0.out
        have hcz8_0 := cellS67_0 HGz8
        have hcz8_1 := cellS67_1 HGz8
        have hcz8_2 := cellS67_2 HGz8
        have hcz8_3 := cellS67_3 HGz8
        have hcz8_4 := cellS67_4 HGz8
        have hfz8_0 := blk_frozen HGz8 0
        have hfz8_1 := blk_frozen HGz8 1
        have hfz8_3 := blk_frozen HGz8 3
        have hfz8_4 := blk_frozen HGz8 4
        clear HGz8 hgz8
        have p7 : 0 ≤ (a1 : Int) := of_decide_eq_true (by first | (with_reducible assumption) | assumption)
        have q7 : a1 < (s0_0.size : Int) := of_decide_eq_true (by first | (with_reducible assumption) | assumption)
        have hx7 := bt_at s0_0 a1
        replace p7 := eq_true p7
        replace q7 := eq_true q7
        go_enter Tryz.func62, Tryz.ntmps62
        go_wp2
        go_ret
        exact ⟨by first | rfl | (simp [errW_none, errW_some] <;> rfl) | (simp [*, errW_none, errW_some] <;> rfl), by repeat (first | (with_reducible first | exact HI0.out | apply IsS67.alloc | apply IsS67.drewN | apply IsS67.drew | apply IsS67.set_0 | apply IsS67.set_1 | apply IsS67.set_3 | apply IsS67.set_4) | exact HI0.out), by repeat (first | (with_reducible first | exact HB.out | apply below_alloc | apply pw_below_drewN | apply below_drew1 | refine below_set ?_ (IsS67.ge HI0.out)) | exact HB.out), by repeat (first | (with_reducible first | exact HK.out | apply KeepBut.set_ | apply keep_drewN | apply keep_drew | apply keep_alloc) | exact HK.out)⟩
      · rw [if_neg c6] at H
        exact absurd H (by simp)
    · rw [if_neg c5] at H
      exact absurd H (by simp)

end Go.Proofs.YtbobbognjmofdaaGreatDoor.Ptext
