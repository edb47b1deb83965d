import Derived.Test.YtbobbognjmofdaaGreatDoorK00
import Derived.Test.YtbobbognjmofdaaGreatDoorK01
import Derived.Test.YtbobbognjmofdaaGreatDoorProg
import Derived.Below
import Derived.Deep.Draws
import Derived.Deep.AppendLies
import Derived.Maps.AppendAt
import Derived.OwnWalk
import Derived.Laws.BytesArg
import Derived.Laws.MakeOwn
import Derived.Laws.OwnMore
import Derived.Deep.OwnRows
import Derived.Tactics
import Derived.Lib.ConvBytes
import Derived.Laws.Slices
import Derived.WalkKit
import Derived.KernelRfl
import Derived.RowKit3
import Derived.Deep.LoopGhost
import Derived.Deep.QuietTactic
import Derived.BigQuiet
import Derived.WideLaws
import Derived.Deep.DeepCutAuto
import Derived.Deep.CutBlock
import Derived.Deep.RegionHeld3
import Derived.Laws.Rows
import Derived.Lib.AppendStr
import Derived.ArgAppend
import Derived.Laws.IdiomCopy
import Derived.OrdersHeld
import Derived.Laws.BitsLemmas
import Derived.RowKit
import Derived.Outline
import Derived.Deep.RegionLaw
import Derived.Laws.Cover4
section
-- PRINTED BY print.sh 35421559b90ae4d0a3588c463048766b98c2df88dd9212a6774a882060cdf62d: not written by this session
-- PRINTED WORDS (module Derived/Print/More.lean): go-gate-2's additions: an AI agent of Go's test side, Tue Nov 17 2026; no person has read it. Lean checks it.
namespace Go.Proofs.YtbobbognjmofdaaGreatDoorW.PrintMore
open Go.RowKit Go.Proofs.YtbobbognjmofdaaGreatDoorW.PrintWords

/-- 'max' and 'min' of two whole numbers. -/
theorem max2_int (k k' : IntKind) (x y : Int) : Builtin.max2 (.int k x) (.int k' y) = pure (.int k (if x < y then y else x)) := by simp only [Builtin.max2, gt_iff_lt]
theorem min2_int (k k' : IntKind) (x y : Int) : Builtin.min2 (.int k x) (.int k' y) = pure (.int k (if y < x then y else x)) := by simp only [Builtin.min2]
theorem max_two (ats : Array TypeId) (ty : TypeId) (a b : Value) : Builtin.max_ ats ty #[a, b] = (Builtin.max2 a b >>= fun s => pure s) := by simp only [Builtin.max_, List.foldlM_cons, List.foldlM_nil]
theorem min_two (ats : Array TypeId) (ty : TypeId) (a b : Value) : Builtin.min_ ats ty #[a, b] = (Builtin.min2 a b >>= fun s => pure s) := by simp only [Builtin.min_, List.foldlM_cons, List.foldlM_nil]
end Go.Proofs.YtbobbognjmofdaaGreatDoorW.PrintMore
namespace Go.Proofs.YtbobbognjmofdaaGreatDoorW.PrintWords
open Go.RowKit
section
variable {P : Program} {ops : Array Oper} {rest : List Oper} {o : Oper} {a : Act} {Q : Exit → Act → World → Prop} {W : World}
/-- The operation is a call of this function (a cheap look ahead of a dear step). -/
theorem gate_callee {f : FuncId} {as_ : Array Operand} {ts : Array TypeId} (_ho : o.op = .call { callee := .value (.func f), args := as_, argTypes := ts }) (h : wpList P ops Q (o :: rest) a W) : wpList P ops Q (o :: rest) a W := h
/-- The operation is a builtin over these places. -/
theorem gate_builtin {b : Builtin} {xs : Array Operand} {ts : Array TypeId} (_ho : o.op = .call { callee := .builtin b, args := xs, argTypes := ts }) (h : wpList P ops Q (o :: rest) a W) : wpList P ops Q (o :: rest) a W := h
end
/-- The greater of two whole numbers, as Go's max tells it. -/
def mx (a b : Int) : Int := if a < b then b else a
/-- The smaller of two whole numbers, as Go's min tells it. -/
def mn (a b : Int) : Int := if b < a then b else a
end Go.Proofs.YtbobbognjmofdaaGreatDoorW.PrintWords
end
section
-- PRINTED BY print.sh 35421559b90ae4d0a3588c463048766b98c2df88dd9212a6774a882060cdf62d: not written by this session
namespace Go.Proofs.YtbobbognjmofdaaGreatDoor.Ptext
open Go.RowKit Go.Proofs.YtbobbognjmofdaaGreatDoorW.PrintWords Go.Proofs.YtbobbognjmofdaaGreatDoorW.PrintLast Go.Proofs.YtbobbognjmofdaaGreatDoorW.PrintMore
attribute [local go_sem] max2_int min2_int max_two min_two   -- for this text's walks alone
set_option linter.unusedVariables false
set_option linter.unusedSimpArgs false




-- the values' own types
/-! #### struct type 24 -/
structure S24 where
  f0 : Int
  f1 : ByteArray
  f2 : Int
  f3 : Int
def z24 : S24 := ⟨(0 : Int), (⟨#[]⟩ : ByteArray), (0 : Int), (0 : Int)⟩
def k24 : Kd S24 := Kd.iso (Kd.pair (Kd.int .i64) (Kd.pair Kd.string (Kd.pair (Kd.int .i64) (Kd.int .i64)))) (fun x : S24 => (x.f0, x.f1, x.f2, x.f3))
theorem k24_open {w : World} {x : S24} {cs : List Value} (h : k24.K w x cs) : cs = [.int .i64 x.f0, .string x.f1, .int .i64 x.f2, .int .i64 x.f3] := by
  obtain ⟨_, _, rfl, rfl, ⟨_, _, rfl, rfl, ⟨_, _, rfl, rfl, rfl⟩⟩⟩ := h
  exact rfl
theorem k24_mkM (w : World) (base : Nat) (ok : Nat → Prop) (x : S24)  : k24.M w base ok x [.int .i64 x.f0, .string x.f1, .int .i64 x.f2, .int .i64 x.f3] := ⟨[.int .i64 x.f0], [.string x.f1, .int .i64 x.f2, .int .i64 x.f3], rfl, rfl, ⟨[.string x.f1], [.int .i64 x.f2, .int .i64 x.f3], rfl, rfl, ⟨[.int .i64 x.f2], [.int .i64 x.f3], rfl, rfl, rfl⟩⟩⟩
def rd_T24 (xs : List S24) (i : Int) : S24 := xs.getD i.toNat z24
theorem at_T24 {w : World} {A : Option Addr} {n : Nat} {xs : List S24} (h : Kd.C k24 w A n xs) (i : Int) (h0 : 0 ≤ i) (h1 : i < n) : ∃ ad , A = some ad ∧ w.cell? (ad.add (i.toNat * 4)) = some (.int .i64 (rd_T24 xs i).f0) ∧ w.cell? ⟨(ad.add (i.toNat * 4)).block, (ad.add (i.toNat * 4)).off + 1, none⟩ = some (.string (rd_T24 xs i).f1) ∧ w.cell? ⟨(ad.add (i.toNat * 4)).block, (ad.add (i.toNat * 4)).off + 2, none⟩ = some (.int .i64 (rd_T24 xs i).f2) ∧ w.cell? ⟨(ad.add (i.toNat * 4)).block, (ad.add (i.toNat * 4)).off + 3, none⟩ = some (.int .i64 (rd_T24 xs i).f3) := by
  obtain ⟨ad, c, e, _, hK, hc0⟩ := Kd.C_get h z24 i h0 h1
  have hc : ∀ j u, c[j]? = some u → w.cell? (ad.add (i.toNat * 4 + j)) = some u := hc0
  obtain rfl := k24_open hK
  exact ⟨ad, e, hc 0 _ rfl, by rw [← add_field _ _ 1 (by omega)]; exact hc 1 _ rfl, by rw [← add_field _ _ 2 (by omega)]; exact hc 2 _ rfl, by rw [← add_field _ _ 3 (by omega)]; exact hc 3 _ rfl⟩

end Go.Proofs.YtbobbognjmofdaaGreatDoor.Ptext
end
section
-- PRINTED BY print.sh 35421559b90ae4d0a3588c463048766b98c2df88dd9212a6774a882060cdf62d: not written by this session
namespace Go.Proofs.YtbobbognjmofdaaGreatDoor.Ptext
open Go.RowKit Go.Proofs.YtbobbognjmofdaaGreatDoorW.PrintWords Go.Proofs.YtbobbognjmofdaaGreatDoorW.PrintLast Go.Proofs.YtbobbognjmofdaaGreatDoorW.PrintMore
attribute [local go_sem] max2_int min2_int max_two min_two   -- for this text's walks alone
set_option linter.unusedVariables false
set_option linter.unusedSimpArgs false

/-! ### spec_Point: function 36 -/
mutual
def spec_Point.j2 : Nat → ByteArray → Int → Int → Int → Int → Option (Int × Int)
  | 0, _, _, _, _, _ => none
  | k + 1, x0, x1, x4, x5, x7 => if x5 = 0 then (spec_Point.j3 k x0 x1 x4 x5 x7 true) else (spec_Point.j3 k x0 x1 x4 x5 x7 (decide ((wrap64 (x1 + x5)) > (x0.size : Int))))
def spec_Point.j3 : Nat → ByteArray → Int → Int → Int → Int → Bool → Option (Int × Int)
  | 0, _, _, _, _, _, _ => none
  | k + 1, x0, x1, x4, x5, x7, x53 => if x53 = true then (some (0, 0)) else (spec_Point.l0 k x0 x1 x4 x5 x7 (wrap64 (x1 + 1)))
def spec_Point.l0 : Nat → ByteArray → Int → Int → Int → Int → Int → Option (Int × Int)
  | 0, _, _, _, _, _, _ => none
  | k + 1, x0, x1, x4, x5, x7, x8 => if x8 < (wrap64 (x1 + x5)) then (if 0 ≤ x8 then (if x8 < (x0.size : Int) then (if (bt x0 x8) < 128 then (some (0, 0)) else (if (bt x0 x8) > 191 then (some (0, 0)) else (spec_Point.l0 k x0 x1 (wrap64 ((wrap64 ((wrap64 (x4 * 64)) + (wrap64 (bt x0 x8)))) - 128)) x5 x7 (wrap64 (x8 + 1))))) else (none)) else (none)) else (if x4 < x7 then (some (0, 0)) else (if x4 > 1114111 then (some (0, 0)) else (if x4 ≥ 55296 then (if x4 < 57344 then (some (0, 0)) else (some (x4, x5))) else (some (x4, x5)))))
def spec_Point.j0 : Nat → ByteArray → Int → Int → Int → Int → Int → Bool → Option (Int × Int)
  | 0, _, _, _, _, _, _, _ => none
  | k + 1, x0, x1, x4, x5, x6, x7, x17 => if x17 = true then (spec_Point.j2 k x0 x1 (wrap64 (x6 - 192)) 2 128) else (if x6 ≥ 224 then (spec_Point.j1 k x0 x1 x4 x5 x6 x7 (decide (x6 < 240))) else (spec_Point.j1 k x0 x1 x4 x5 x6 x7 false))
def spec_Point.j1 : Nat → ByteArray → Int → Int → Int → Int → Int → Bool → Option (Int × Int)
  | 0, _, _, _, _, _, _, _ => none
  | k + 1, x0, x1, x4, x5, x6, x7, x26 => if x26 = true then (spec_Point.j2 k x0 x1 (wrap64 (x6 - 224)) 3 2048) else (if x6 ≥ 240 then (if x6 < 245 then (spec_Point.j2 k x0 x1 (wrap64 (x6 - 240)) 4 65536) else (spec_Point.j2 k x0 x1 x4 x5 x7)) else (spec_Point.j2 k x0 x1 x4 x5 x7))
end
def spec_Point.f (k : Nat) (a0 : ByteArray) (a1 : Int) : Option (Int × Int) := if 0 ≤ a1 then (if a1 < (a0.size : Int) then (if (wrap64 (bt a0 a1)) < 128 then (some (wrap64 (bt a0 a1), 1)) else (if (wrap64 (bt a0 a1)) ≥ 194 then (spec_Point.j0 k a0 a1 0 0 (wrap64 (bt a0 a1)) 0 (decide ((wrap64 (bt a0 a1)) < 224))) else (spec_Point.j0 k a0 a1 0 0 (wrap64 (bt a0 a1)) 0 false))) else (none)) else (none)
set_option maxHeartbeats 8000000 in
set_option maxRecDepth 100000 in
theorem spec_Point.calls (k : Nat) (a0 : ByteArray) (a1 : Int) (r1 : Int) (r2 : Int) (w : World) (h : spec_Point.f k a0 a1 = some (r1, r2)) :
    Calls Tryz.prog 36 #[.string a0, .int .i64 a1] w fun e w' => e = .returned (.tuple #[.int .i64 r1, .int .i64 r2]) ∧ Drawn0 w w' := by
  have H : (if 0 ≤ a1 then (if a1 < (a0.size : Int) then (if (wrap64 (bt a0 a1)) < 128 then (some (wrap64 (bt a0 a1), 1)) else (if (wrap64 (bt a0 a1)) ≥ 194 then (spec_Point.j0 k a0 a1 0 0 (wrap64 (bt a0 a1)) 0 (decide ((wrap64 (bt a0 a1)) < 224))) else (spec_Point.j0 k a0 a1 0 0 (wrap64 (bt a0 a1)) 0 false))) else (none)) else (none)) = some (r1, r2) := h
  clear h
  by_cases c3 : 0 ≤ a1
  · rw [if_pos c3] at H
    have c3b0 : decide (0 ≤ a1) = true := decide_eq_true c3
    clear c3
    by_cases c4 : a1 < (a0.size : Int)
    · rw [if_pos c4] at H
      have c4b0 : decide (a1 < (a0.size : Int)) = true := decide_eq_true c4
      clear c4
      have HC6 := Aside0.mk H
      clear H
      have p5 : 0 ≤ (a1 : Int) := of_decide_eq_true (by first | (with_reducible assumption) | assumption)
      have q5 : a1 < (a0.size : Int) := of_decide_eq_true (by first | (with_reducible assumption) | assumption)
      have hx5 := bt_at a0 a1
      replace p5 := eq_true p5
      replace q5 := eq_true q5
      go_enter Tryz.func36, Tryz.ntmps36
      go_upto_block 0 with (fail)
      go_cut [4, 5, 7] (fun v4 v5 v7 wc => ∃ (kq : Nat) (x4_5 : Int) (x5_5 : Int) (x7_5 : Int), v4 = .int .i64 x4_5 ∧ v5 = .int .i64 x5_5 ∧ v7 = .int .i64 x7_5 ∧ Aside0 (spec_Point.j2 kq a0 a1 x4_5 x5_5 x7_5 = some (r1, r2)) ∧ Aside0 (kq ≤ k) ∧ Drawn0 w wc)
      case first =>
        have H := HC6.out
        clear HC6
        by_cases c7 : (wrap64 (bt a0 a1)) < 128
        · rw [if_pos c7] at H
          have c7b0 : decide ((wrap64 (bt a0 a1)) < 128) = true := decide_eq_true c7
          clear c7
          (first | rw [c7b0] | (simp only [i64_w, i32_w]; rw [c7b0]) | skip)
          simp only [Option.some.injEq, Prod.mk.injEq] at H
          obtain ⟨rfl, rfl⟩ := H
          go_wp2
          go_ret2
          exact ⟨by first | rfl | (simp; done) | (simp [*]; done), by repeat (first | exact Drawn0.refl _ | apply Drawn0.step)⟩
        · rw [if_neg c7] at H
          have c7b0 : decide ((wrap64 (bt a0 a1)) < 128) = false := decide_eq_false c7
          clear c7
          (first | rw [c7b0] | (simp only [i64_w, i32_w]; rw [c7b0]) | skip)
          have HC8 := Aside0.mk H
          clear H
          go_upto_region 5 with (fail)
          go_cut [17] (fun v17 wc => ∃ (kq : Nat) (x17_7 : Bool), v17 = .bool x17_7 ∧ Aside0 (spec_Point.j0 kq a0 a1 0 0 (wrap64 (bt a0 a1)) 0 x17_7 = some (r1, r2)) ∧ Aside0 (kq ≤ k) ∧ Drawn0 w wc)
          case first =>
            have H := HC8.out
            clear HC8
            by_cases c9 : (wrap64 (bt a0 a1)) ≥ 194
            · rw [if_pos c9] at H
              have c9b0 : decide (194 ≤ (wrap64 (bt a0 a1))) = true := decide_eq_true c9
              clear c9
              (first | rw [c9b0] | (simp only [i64_w, i32_w]; rw [c9b0]) | skip)
              have H' := Aside0.mk H
              clear H
              go_wp2
              go_meet
              case rel => exact ⟨_, (decide ((wrap64 (bt a0 a1)) < 224)), (by first | rfl | (simp; done) | (simp [*]; done)), H', ⟨by first | omega | exact Nat.le_refl _⟩, by repeat (first | exact Drawn0.refl _ | apply Drawn0.step)⟩
            · rw [if_neg c9] at H
              have c9b0 : decide (194 ≤ (wrap64 (bt a0 a1))) = false := decide_eq_false c9
              clear c9
              (first | rw [c9b0] | (simp only [i64_w, i32_w]; rw [c9b0]) | skip)
              have H' := Aside0.mk H
              clear H
              go_wp2
              go_meet
              case rel => exact ⟨_, (false), (by first | rfl | (simp; done) | (simp [*]; done)), H', ⟨by first | omega | exact Nat.le_refl _⟩, by repeat (first | exact Drawn0.refl _ | apply Drawn0.step)⟩
          case rest =>
            clear HC8
            try clear p2
            try clear c3
            try clear c3b0
            try clear c4
            try clear c4b0
            try clear p5
            try clear q5
            try clear hx5
            try clear p6
            try clear c7
            try clear c7b0
            try clear c9
            try clear c9b0
            try clear p5
            try clear q5
            obtain ⟨kq, x17_7, rfl, HA, HJ7, ⟨mc7, rfl⟩⟩ := hcut
            cases kq with
            | zero => exact absurd HA.out (by simp [spec_Point.j0])
            | succ kj7 =>
              have H := HA.out
              clear HA
              simp only [spec_Point.j0] at H
              by_cases c10 : x17_7 = true
              · subst c10
                have H1 : (spec_Point.j2 kj7 a0 a1 (wrap64 ((wrap64 (bt a0 a1)) - 192)) 2 128) = some (r1, r2) := by rw [if_pos rfl] at H; exact H
                clear H
                have H := H1
                clear H1
                have H' := Aside0.mk H
                clear H
                go_wp2
                go_meet
                case rel => exact ⟨_, (wrap64 ((wrap64 (bt a0 a1)) - 192)), (2), (128), (by first | rfl | (simp; done) | (simp [*]; done)), (by first | rfl | (simp; done) | (simp [*]; done)), (by first | rfl | (simp; done) | (simp [*]; done)), H', ⟨by have := HJ7.out; first | omega | exact Nat.le_refl _⟩, by repeat (first | exact Drawn0.refl _ | apply Drawn0.step)⟩
              · replace c10 := Bool.eq_false_iff.mpr c10
                subst c10
                have H1 : (if (wrap64 (bt a0 a1)) ≥ 224 then (spec_Point.j1 kj7 a0 a1 0 0 (wrap64 (bt a0 a1)) 0 (decide ((wrap64 (bt a0 a1)) < 240))) else (spec_Point.j1 kj7 a0 a1 0 0 (wrap64 (bt a0 a1)) 0 false)) = some (r1, r2) := by rw [if_neg (show ¬ (false = true) by decide)] at H; exact H
                clear H
                have H := H1
                clear H1
                have HC11 := Aside0.mk H
                clear H
                go_upto_region 7 with (fail)
                go_cut [26] (fun v26 wc => ∃ (kq : Nat) (x26_10 : Bool), v26 = .bool x26_10 ∧ Aside0 (spec_Point.j1 kq a0 a1 0 0 (wrap64 (bt a0 a1)) 0 x26_10 = some (r1, r2)) ∧ Aside0 (kq ≤ kj7) ∧ Drawn0 w wc)
                case first =>
                  have H := HC11.out
                  clear HC11
                  by_cases c12 : (wrap64 (bt a0 a1)) ≥ 224
                  · rw [if_pos c12] at H
                    have c12b0 : decide (224 ≤ (wrap64 (bt a0 a1))) = true := decide_eq_true c12
                    clear c12
                    (first | rw [c12b0] | (simp only [i64_w, i32_w]; rw [c12b0]) | skip)
                    have H' := Aside0.mk H
                    clear H
                    go_wp2
                    go_meet
                    case rel => exact ⟨_, (decide ((wrap64 (bt a0 a1)) < 240)), (by first | rfl | (simp; done) | (simp [*]; done)), H', ⟨by have := HJ7.out; first | omega | exact Nat.le_refl _⟩, by repeat (first | exact Drawn0.refl _ | apply Drawn0.step)⟩
                  · rw [if_neg c12] at H
                    have c12b0 : decide (224 ≤ (wrap64 (bt a0 a1))) = false := decide_eq_false c12
                    clear c12
                    (first | rw [c12b0] | (simp only [i64_w, i32_w]; rw [c12b0]) | skip)
                    have H' := Aside0.mk H
                    clear H
                    go_wp2
                    go_meet
                    case rel => exact ⟨_, (false), (by first | rfl | (simp; done) | (simp [*]; done)), H', ⟨by have := HJ7.out; first | omega | exact Nat.le_refl _⟩, by repeat (first | exact Drawn0.refl _ | apply Drawn0.step)⟩
                case rest =>
                  clear HC11
                  try clear c1
                  try clear p2
                  try clear c3
                  try clear c3b0
                  try clear c4
                  try clear c4b0
                  try clear p5
                  try clear q5
                  try clear hx5
                  try clear p6
                  try clear c7
                  try clear c7b0
                  try clear c9
                  try clear c9b0
                  try clear c10
                  try clear c12
                  try clear c12b0
                  try clear p2
                  try clear p5
                  try clear p6
                  try clear q5
                  obtain ⟨kq, x26_10, rfl, HA, HJ10, ⟨mc10, rfl⟩⟩ := hcut
                  cases kq with
                  | zero => exact absurd HA.out (by simp [spec_Point.j1])
                  | succ kj10 =>
                    have H := HA.out
                    clear HA
                    simp only [spec_Point.j1] at H
                    by_cases c13 : x26_10 = true
                    · subst c13
                      have H1 : (spec_Point.j2 kj10 a0 a1 (wrap64 ((wrap64 (bt a0 a1)) - 224)) 3 2048) = some (r1, r2) := by rw [if_pos rfl] at H; exact H
                      clear H
                      have H := H1
                      clear H1
                      have H' := Aside0.mk H
                      clear H
                      go_wp2
                      go_meet
                      case rel => exact ⟨_, (wrap64 ((wrap64 (bt a0 a1)) - 224)), (3), (2048), (by first | rfl | (simp; done) | (simp [*]; done)), (by first | rfl | (simp; done) | (simp [*]; done)), (by first | rfl | (simp; done) | (simp [*]; done)), H', ⟨by have := HJ7.out; have := HJ10.out; first | omega | exact Nat.le_refl _⟩, by repeat (first | exact Drawn0.refl _ | apply Drawn0.step)⟩
                    · replace c13 := Bool.eq_false_iff.mpr c13
                      subst c13
                      have H1 : (if (wrap64 (bt a0 a1)) ≥ 240 then (if (wrap64 (bt a0 a1)) < 245 then (spec_Point.j2 kj10 a0 a1 (wrap64 ((wrap64 (bt a0 a1)) - 240)) 4 65536) else (spec_Point.j2 kj10 a0 a1 0 0 0)) else (spec_Point.j2 kj10 a0 a1 0 0 0)) = some (r1, r2) := by rw [if_neg (show ¬ (false = true) by decide)] at H; exact H
                      clear H
                      have H := H1
                      clear H1
                      by_cases c14 : (wrap64 (bt a0 a1)) ≥ 240
                      · rw [if_pos c14] at H
                        have c14b0 : decide (240 ≤ (wrap64 (bt a0 a1))) = true := decide_eq_true c14
                        clear c14
                        by_cases c15 : (wrap64 (bt a0 a1)) < 245
                        · rw [if_pos c15] at H
                          have c15b0 : decide ((wrap64 (bt a0 a1)) < 245) = true := decide_eq_true c15
                          clear c15
                          have H' := Aside0.mk H
                          clear H
                          go_wp2
                          go_meet
                          case rel => exact ⟨_, (wrap64 ((wrap64 (bt a0 a1)) - 240)), (4), (65536), (by first | rfl | (simp; done) | (simp [*]; done)), (by first | rfl | (simp; done) | (simp [*]; done)), (by first | rfl | (simp; done) | (simp [*]; done)), H', ⟨by have := HJ7.out; have := HJ10.out; first | omega | exact Nat.le_refl _⟩, by repeat (first | exact Drawn0.refl _ | apply Drawn0.step)⟩
                        · rw [if_neg c15] at H
                          have c15b0 : decide ((wrap64 (bt a0 a1)) < 245) = false := decide_eq_false c15
                          clear c15
                          have H' := Aside0.mk H
                          clear H
                          go_wp2
                          go_meet
                          case rel => exact ⟨_, (0), (0), (0), (by first | rfl | (simp; done) | (simp [*]; done)), (by first | rfl | (simp; done) | (simp [*]; done)), (by first | rfl | (simp; done) | (simp [*]; done)), H', ⟨by have := HJ7.out; have := HJ10.out; first | omega | exact Nat.le_refl _⟩, by repeat (first | exact Drawn0.refl _ | apply Drawn0.step)⟩
                      · rw [if_neg c14] at H
                        have c14b0 : decide (240 ≤ (wrap64 (bt a0 a1))) = false := decide_eq_false c14
                        clear c14
                        have H' := Aside0.mk H
                        clear H
                        go_wp2
                        go_meet
                        case rel => exact ⟨_, (0), (0), (0), (by first | rfl | (simp; done) | (simp [*]; done)), (by first | rfl | (simp; done) | (simp [*]; done)), (by first | rfl | (simp; done) | (simp [*]; done)), H', ⟨by have := HJ7.out; have := HJ10.out; first | omega | exact Nat.le_refl _⟩, by repeat (first | exact Drawn0.refl _ | apply Drawn0.step)⟩
      case rest =>
        clear HC6
        try clear c1
        try clear p2
        try clear c3
        try clear c3b0
        try clear c4
        try clear c4b0
        try clear p5
        try clear q5
        try clear hx5
        try clear p6
        try clear c7
        try clear c7b0
        try clear c9
        try clear c9b0
        try clear c10
        try clear c12
        try clear c12b0
        try clear c13
        try clear c14
        try clear c14b0
        try clear c15
        try clear c15b0
        try clear p2
        try clear p5
        try clear p6
        try clear q5
        obtain ⟨kq, x4_5, x5_5, x7_5, rfl, rfl, rfl, HA, HJ5, ⟨mc5, rfl⟩⟩ := hcut
        cases kq with
        | zero => exact absurd HA.out (by simp [spec_Point.j2])
        | succ kj5 =>
          have H := HA.out
          clear HA
          simp only [spec_Point.j2] at H
          have HC16 := Aside0.mk H
          clear H
          go_upto_region 11 with (fail)
          go_cut [53] (fun v53 wc => ∃ (kq : Nat) (x53_15 : Bool), v53 = .bool x53_15 ∧ Aside0 (spec_Point.j3 kq a0 a1 x4_5 x5_5 x7_5 x53_15 = some (r1, r2)) ∧ Aside0 (kq ≤ kj5) ∧ Drawn0 w wc)
          case first =>
            have H := HC16.out
            clear HC16
            by_cases c17 : x5_5 = 0
            · rw [if_pos c17] at H
              have c17b0 : (x5_5 == 0) = true := beq_iff_eq.mpr c17
              have c17b1 : (x5_5 != 0) = false := bne_eq_false_iff_eq.mpr c17
              clear c17
              (first | rw [c17b0] | (simp only [i64_w, i32_w]; rw [c17b0]) | skip)
              have H' := Aside0.mk H
              clear H
              go_wp2
              go_meet
              case rel => exact ⟨_, (true), (by first | rfl | (simp; done) | (simp [*]; done)), H', ⟨by have := HJ5.out; first | omega | exact Nat.le_refl _⟩, by repeat (first | exact Drawn0.refl _ | apply Drawn0.step)⟩
            · rw [if_neg c17] at H
              have c17b0 : (x5_5 == 0) = false := beq_eq_false_iff_ne.mpr c17
              have c17b1 : (x5_5 != 0) = true := bne_iff_ne.mpr c17
              (first | rw [c17b0] | (simp only [i64_w, i32_w]; rw [c17b0]) | skip)
              have H' := Aside0.mk H
              clear H
              go_wp2
              go_meet
              case rel => exact ⟨_, (decide ((wrap64 (a1 + x5_5)) > (a0.size : Int))), (by first | rfl | (simp; done) | (simp [*]; done)), H', ⟨by have := HJ5.out; first | omega | exact Nat.le_refl _⟩, by repeat (first | exact Drawn0.refl _ | apply Drawn0.step)⟩
          case rest =>
            clear HC16
            try clear c1
            try clear p2
            try clear c3
            try clear c3b0
            try clear c4
            try clear c4b0
            try clear c5
            try clear p5
            try clear q5
            try clear hx5
            try clear p6
            try clear c7
            try clear c7b0
            try clear c9
            try clear c9b0
            try clear c10
            try clear c12
            try clear c12b0
            try clear c13
            try clear c14
            try clear c14b0
            try clear c15
            try clear c15b0
            try clear c17
            try clear c17b0
            try clear c17b1
            try clear p2
            try clear p5
            try clear p6
            try clear q5
            obtain ⟨kq, x53_15, rfl, HA, HJ15, ⟨mc15, rfl⟩⟩ := hcut
            cases kq with
            | zero => exact absurd HA.out (by simp [spec_Point.j3])
            | succ kj15 =>
              have H := HA.out
              clear HA
              simp only [spec_Point.j3] at H
              by_cases c18 : x53_15 = true
              · subst c18
                have H1 : (some (0, 0)) = some (r1, r2) := by rw [if_pos rfl] at H; exact H
                clear H
                have H := H1
                clear H1
                simp only [Option.some.injEq, Prod.mk.injEq] at H
                obtain ⟨rfl, rfl⟩ := H
                go_wp2
                go_ret2
                exact ⟨by first | rfl | (simp; done) | (simp [*]; done), by repeat (first | exact Drawn0.refl _ | apply Drawn0.step)⟩
              · replace c18 := Bool.eq_false_iff.mpr c18
                subst c18
                have H1 : (spec_Point.l0 kj15 a0 a1 x4_5 x5_5 x7_5 (wrap64 (a1 + 1))) = some (r1, r2) := by rw [if_neg (show ¬ (false = true) by decide)] at H; exact H
                clear H
                have H := H1
                clear H1
                have H' := Aside0.mk H
                clear H
                go_wp2
                go_loopg [4, 5, 8] kj15 (fun kq v4 v5 v8 w' => ∃ (x4_3 : Int) (x5_3 : Int) (x8_3 : Int), v4 = .int .i64 x4_3 ∧ v5 = .int .i64 x5_3 ∧ v8 = .int .i64 x8_3 ∧ Aside0 (spec_Point.l0 kq a0 a1 x4_3 x5_3 x7_5 x8_3 = some (r1, r2)) ∧ Aside0 (kq ≤ kj15) ∧ Drawn0 w w')
                case atStart => exact ⟨(x4_5), (x5_5), (wrap64 (a1 + 1)), (by first | rfl | (simp; done) | (simp [*]; done)), (by first | rfl | (simp; done) | (simp [*]; done)), (by first | rfl | (simp; done) | (simp [*]; done)), H', ⟨Nat.le_refl _⟩, by repeat (first | exact Drawn0.refl _ | apply Drawn0.step)⟩
                case round =>
                  clear H'
                  try clear c1
                  try clear p2
                  try clear c3
                  try clear c3b0
                  try clear c4
                  try clear c4b0
                  try clear c5
                  try clear p5
                  try clear q5
                  try clear hx5
                  try clear p6
                  try clear c7
                  try clear c7b0
                  try clear c9
                  try clear c9b0
                  try clear c10
                  try clear c12
                  try clear c12b0
                  try clear c13
                  try clear c14
                  try clear c14b0
                  try clear c15
                  try clear c15b0
                  try clear c17
                  try clear c17b0
                  try clear c17b1
                  try clear c18
                  try clear p2
                  try clear p5
                  try clear p6
                  try clear q5
                  obtain ⟨x4_3, x5_3, x8_3, rfl, rfl, rfl, HA, HK3, ⟨m3, rfl⟩⟩ := hrel
                  cases gk with
                  | zero => exact absurd HA.out (by simp [spec_Point.l0])
                  | succ k3 =>
                    have H := HA.out
                    clear HA
                    simp only [spec_Point.l0] at H
                    by_cases c19 : x8_3 < (wrap64 (a1 + x5_3))
                    · rw [if_pos c19] at H
                      have c19b0 : decide (x8_3 < (wrap64 (a1 + x5_3))) = true := decide_eq_true c19
                      clear c19
                      by_cases c20 : 0 ≤ x8_3
                      · rw [if_pos c20] at H
                        have c20b0 : decide (0 ≤ x8_3) = true := decide_eq_true c20
                        clear c20
                        by_cases c21 : x8_3 < (a0.size : Int)
                        · rw [if_pos c21] at H
                          have c21b0 : decide (x8_3 < (a0.size : Int)) = true := decide_eq_true c21
                          clear c21
                          by_cases c23 : (bt a0 x8_3) < 128
                          · rw [if_pos c23] at H
                            have c23b0 : decide ((bt a0 x8_3) < 128) = true := decide_eq_true c23
                            clear c23
                            simp only [Option.some.injEq, Prod.mk.injEq] at H
                            obtain ⟨rfl, rfl⟩ := H
                            have p22 : 0 ≤ (x8_3 : Int) := of_decide_eq_true (by first | (with_reducible assumption) | assumption)
                            have q22 : x8_3 < (a0.size : Int) := of_decide_eq_true (by first | (with_reducible assumption) | assumption)
                            have hx22 := bt_at a0 x8_3
                            replace p22 := eq_true p22
                            replace q22 := eq_true q22
                            go_wp2
                            go_ret2
                            exact ⟨by first | rfl | (simp; done) | (simp [*]; done), by repeat (first | exact Drawn0.refl _ | apply Drawn0.step)⟩
                          · rw [if_neg c23] at H
                            have c23b0 : decide ((bt a0 x8_3) < 128) = false := decide_eq_false c23
                            clear c23
                            by_cases c25 : (bt a0 x8_3) > 191
                            · rw [if_pos c25] at H
                              have c25b0 : decide (191 < (bt a0 x8_3)) = true := decide_eq_true c25
                              clear c25
                              simp only [Option.some.injEq, Prod.mk.injEq] at H
                              obtain ⟨rfl, rfl⟩ := H
                              have p22 : 0 ≤ (x8_3 : Int) := of_decide_eq_true (by first | (with_reducible assumption) | assumption)
                              have q22 : x8_3 < (a0.size : Int) := of_decide_eq_true (by first | (with_reducible assumption) | assumption)
                              have hx22 := bt_at a0 x8_3
                              replace p22 := eq_true p22
                              replace q22 := eq_true q22
                              have p24 : 0 ≤ (x8_3 : Int) := of_decide_eq_true (by first | (with_reducible assumption) | assumption)
                              have q24 : x8_3 < (a0.size : Int) := of_decide_eq_true (by first | (with_reducible assumption) | assumption)
                              have hx24 := bt_at a0 x8_3
                              replace p24 := eq_true p24
                              replace q24 := eq_true q24
                              go_wp2
                              go_ret2
                              exact ⟨by first | rfl | (simp; done) | (simp [*]; done), by repeat (first | exact Drawn0.refl _ | apply Drawn0.step)⟩
                            · rw [if_neg c25] at H
                              have c25b0 : decide (191 < (bt a0 x8_3)) = false := decide_eq_false c25
                              clear c25
                              have H' := Aside0.mk H
                              clear H
                              have p22 : 0 ≤ (x8_3 : Int) := of_decide_eq_true (by first | (with_reducible assumption) | assumption)
                              have q22 : x8_3 < (a0.size : Int) := of_decide_eq_true (by first | (with_reducible assumption) | assumption)
                              have hx22 := bt_at a0 x8_3
                              replace p22 := eq_true p22
                              replace q22 := eq_true q22
                              have p24 : 0 ≤ (x8_3 : Int) := of_decide_eq_true (by first | (with_reducible assumption) | assumption)
                              have q24 : x8_3 < (a0.size : Int) := of_decide_eq_true (by first | (with_reducible assumption) | assumption)
                              have hx24 := bt_at a0 x8_3
                              replace p24 := eq_true p24
                              replace q24 := eq_true q24
                              have p26 : 0 ≤ (x8_3 : Int) := of_decide_eq_true (by first | (with_reducible assumption) | assumption)
                              have q26 : x8_3 < (a0.size : Int) := of_decide_eq_true (by first | (with_reducible assumption) | assumption)
                              have hx26 := bt_at a0 x8_3
                              replace p26 := eq_true p26
                              replace q26 := eq_true q26
                              go_wp2
                              go_roundg k3
                              case measure => have := HJ5.out; have := HJ15.out; have := HK3.out; omega
                              case rel => exact ⟨(wrap64 ((wrap64 ((wrap64 (x4_3 * 64)) + (wrap64 (bt a0 x8_3)))) - 128)), (x5_3), (wrap64 (x8_3 + 1)), (by first | rfl | (simp; done) | (simp [*]; done)), (by first | rfl | (simp; done) | (simp [*]; done)), (by first | rfl | (simp; done) | (simp [*]; done)), H', ⟨by have := HJ5.out; have := HJ15.out; have := HK3.out; omega⟩, by repeat (first | exact Drawn0.refl _ | apply Drawn0.step)⟩
                        · rw [if_neg c21] at H
                          exact absurd H (by simp)
                      · rw [if_neg c20] at H
                        exact absurd H (by simp)
                    · rw [if_neg c19] at H
                      have c19b0 : decide (x8_3 < (wrap64 (a1 + x5_3))) = false := decide_eq_false c19
                      clear c19
                      by_cases c27 : x4_3 < x7_5
                      · rw [if_pos c27] at H
                        have c27b0 : decide (x4_3 < x7_5) = true := decide_eq_true c27
                        clear c27
                        simp only [Option.some.injEq, Prod.mk.injEq] at H
                        obtain ⟨rfl, rfl⟩ := H
                        go_wp2
                        go_ret2
                        exact ⟨by first | rfl | (simp; done) | (simp [*]; done), by repeat (first | exact Drawn0.refl _ | apply Drawn0.step)⟩
                      · rw [if_neg c27] at H
                        have c27b0 : decide (x4_3 < x7_5) = false := decide_eq_false c27
                        clear c27
                        by_cases c28 : x4_3 > 1114111
                        · rw [if_pos c28] at H
                          have c28b0 : decide (1114111 < x4_3) = true := decide_eq_true c28
                          clear c28
                          simp only [Option.some.injEq, Prod.mk.injEq] at H
                          obtain ⟨rfl, rfl⟩ := H
                          go_wp2
                          go_ret2
                          exact ⟨by first | rfl | (simp; done) | (simp [*]; done), by repeat (first | exact Drawn0.refl _ | apply Drawn0.step)⟩
                        · rw [if_neg c28] at H
                          have c28b0 : decide (1114111 < x4_3) = false := decide_eq_false c28
                          clear c28
                          by_cases c29 : x4_3 ≥ 55296
                          · rw [if_pos c29] at H
                            have c29b0 : decide (55296 ≤ x4_3) = true := decide_eq_true c29
                            clear c29
                            by_cases c30 : x4_3 < 57344
                            · rw [if_pos c30] at H
                              have c30b0 : decide (x4_3 < 57344) = true := decide_eq_true c30
                              clear c30
                              simp only [Option.some.injEq, Prod.mk.injEq] at H
                              obtain ⟨rfl, rfl⟩ := H
                              go_wp2
                              go_ret2
                              exact ⟨by first | rfl | (simp; done) | (simp [*]; done), by repeat (first | exact Drawn0.refl _ | apply Drawn0.step)⟩
                            · rw [if_neg c30] at H
                              have c30b0 : decide (x4_3 < 57344) = false := decide_eq_false c30
                              clear c30
                              simp only [Option.some.injEq, Prod.mk.injEq] at H
                              obtain ⟨rfl, rfl⟩ := H
                              go_wp2
                              go_ret2
                              exact ⟨by first | rfl | (simp; done) | (simp [*]; done), by repeat (first | exact Drawn0.refl _ | apply Drawn0.step)⟩
                          · rw [if_neg c29] at H
                            have c29b0 : decide (55296 ≤ x4_3) = false := decide_eq_false c29
                            clear c29
                            simp only [Option.some.injEq, Prod.mk.injEq] at H
                            obtain ⟨rfl, rfl⟩ := H
                            go_wp2
                            go_ret2
                            exact ⟨by first | rfl | (simp; done) | (simp [*]; done), by repeat (first | exact Drawn0.refl _ | apply Drawn0.step)⟩
    · rw [if_neg c4] at H
      exact absurd H (by simp)
  · rw [if_neg c3] at H
    exact absurd H (by simp)

-- NOT PRINTED: function 53 (spec_lexer_add)


/-! ### spec_lexer_fail: function 54 -/

/-! ### spec_lexer_next: function 62 -/

end Go.Proofs.YtbobbognjmofdaaGreatDoor.Ptext
end
section
namespace Go.Proofs.YtbobbognjmofdaaGreatDoor.Lex
open Go.RowKit Go.Proofs.YtbobbognjmofdaaGreatDoorW.PrintWords Go.Proofs.YtbobbognjmofdaaGreatDoorW.PrintLast Go.Proofs.YtbobbognjmofdaaGreatDoorW.PrintMore
open Go.Proofs.YtbobbognjmofdaaGreatDoor.Ptext
set_option linter.unusedVariables false
set_option linter.unusedSimpArgs false
theorem info24 : (Tryz.prog.info? 24).map (fun i => (i.zero, i.size, i.bytes)) = some (some (.agg #[.int .i64 0, .string ⟨#[]⟩, .int .i64 0, .int .i64 0]), 4, 40) := by kernel_rfl
theorem k24_E : ∀ q, q ∈ 24 :: k24.E → q ≠ 67 := by
  simp [k24, Kd.iso, Kd.pair, Kd.int, Kd.string, Kd.scalar]
/-- The reference's lexer. -/
structure LS where
  s : ByteArray
  at_ : Int
  out : List S24
  bad : Bool
  unsure : Bool
/-- Such a lexer in memory, in block g, made by the call itself (above base). -/
def Lx (W : World) (base g : Nat) (x : LS) : Prop := ∃ v, W.heap[g]? = some (.cells #[.string x.s, .int .i64 x.at_, v, .bool x.bad, .bool x.unsure] 67 (0, 0)) ∧ base ≤ g ∧ Kd.R k24 24 W base (fun _ => True) v x.out
theorem Lx.cells {W : World} {base g : Nat} {x : LS} (h : Lx W base g x) : ∃ v,
    W.cell? ⟨g, 0, none⟩ = some (.string x.s) ∧ W.cell? ⟨g, 1, none⟩ = some (.int .i64 x.at_) ∧ W.cell? ⟨g, 2, none⟩ = some v ∧ W.cell? ⟨g, 3, none⟩ = some (.bool x.bad) ∧ W.cell? ⟨g, 4, none⟩ = some (.bool x.unsure) ∧ ∀ j, W.frozen? ⟨g, j, none⟩ = false := by
  obtain ⟨v, h, -, -⟩ := h
  refine ⟨v, ?_, ?_, ?_, ?_, ?_, fun j => ?_⟩ <;> simp [World.cell?, World.frozen?, h]
theorem Lx.slice {W : World} {base g : Nat} {x : LS} (h : Lx W base g x) : ∃ A c, x.out.length ≤ c ∧ Kd.C k24 W A x.out.length x.out ∧ W.cell? ⟨g, 2, none⟩ = some (.slice A x.out.length c) := by
  obtain ⟨v, h, -, hR⟩ := h
  obtain ⟨A, c, rfl, hc, hC⟩ := Kd.R_reads hR
  exact ⟨A, c, hc, hC, by simp [World.cell?, h]⟩
theorem Lx.lt {W : World} {base g : Nat} {x : LS} (h : Lx W base g x) : g < W.heap.size := by
  obtain ⟨v, h, -, -⟩ := h
  exact (Array.getElem?_eq_some_iff.1 h).1
theorem Lx.below {W W1 : World} {base g : Nat} {x : LS} (h : Lx W base g x) (hb : Below W.heap.size W W1) : Lx W1 base g x := by
  have hlt := h.lt
  obtain ⟨v, h, hg, hR⟩ := h
  exact ⟨v, (hb.block g hlt).trans h, hg, Kd.R_below hR hb⟩
theorem Lx.drewN {W : World} {base g : Nat} {x : LS} (h : Lx W base g x) (m : Nat) : Lx (W.drewN m) base g x := h.below (pw_below_drewN (Below.refl _ _) m)
theorem Lx.drew {W : World} {base g : Nat} {x : LS} (h : Lx W base g x) : Lx W.drew base g x := h.drewN 1
/-- A store into one of the lexer's own cells but the slice. -/
theorem Lx.set1 {W : World} {base g : Nat} {x : LS} (h : Lx W base g x) (i : Int) : Lx (W.setCell ⟨g, 1, none⟩ (.int .i64 i)) base g { x with at_ := i } := by
  obtain ⟨v, h, hg, hR⟩ := h
  exact ⟨v, (blk_set h 1 _).trans rfl, hg, Kd.R_set hR h k24_E _ _⟩
theorem Lx.set3 {W : World} {base g : Nat} {x : LS} (h : Lx W base g x) (b : Bool) : Lx (W.setCell ⟨g, 3, none⟩ (.bool b)) base g { x with bad := b } := by
  obtain ⟨v, h, hg, hR⟩ := h
  exact ⟨v, (blk_set h 3 _).trans rfl, hg, Kd.R_set hR h k24_E _ _⟩
theorem Lx.set4 {W : World} {base g : Nat} {x : LS} (h : Lx W base g x) (b : Bool) : Lx (W.setCell ⟨g, 4, none⟩ (.bool b)) base g { x with unsure := b } := by
  obtain ⟨v, h, hg, hR⟩ := h
  exact ⟨v, (blk_set h 4 _).trans rfl, hg, Kd.R_set hR h k24_E _ _⟩
theorem Lx.bset {W W1 : World} {base g : Nat} {x : LS} (h : Lx W1 base g x) (hb : Below base W W1) (j : Nat) (u : Value) : Below base W (W1.setCell ⟨g, j, none⟩ u) := by
  obtain ⟨v, h, hg, hR⟩ := h
  exact hb.setCell hg u
set_option maxHeartbeats 400000 in
theorem add_any (base g : Nat) (x : LS) (kind tt : Int) (val : ByteArray) (w : World) (h : Lx w base g x) (hbase : base ≤ w.heap.size) (hl : (x.out.length + 1) * 40 ≤ 140737488355328) :
    Calls Tryz.prog 53 #[.pointer (some ⟨g, 0, none⟩), .int .i64 kind, .int .i64 tt, .string val] w fun e w' => e = .returned (.tuple #[]) ∧ Lx w' base g { x with at_ := tt, out := x.out ++ [⟨kind, val, x.at_, tt⟩] } ∧ Below base w w' := by
  have hlt := h.lt
  obtain ⟨v, hh, hg, hR⟩ := h
  have c0 : w.cell? ⟨g, 0, none⟩ = some (.string x.s) := by simp [World.cell?, hh]
  have c1 : w.cell? ⟨g, 1, none⟩ = some (.int .i64 x.at_) := by simp [World.cell?, hh]
  have c2 : w.cell? ⟨g, 2, none⟩ = some v := by simp [World.cell?, hh]
  have fz : ∀ j, w.frozen? ⟨g, j, none⟩ = false := fun j => by simp [World.frozen?, hh]
  have HH := Aside0.mk hh
  have HR := Aside0.mk hR
  have hne : some g ≠ v.ownBlock := by
    intro he
    obtain ⟨cs, hcs⟩ := own_typed hR.2.choose_spec.1 g he.symm
    rw [hh] at hcs
    injection hcs with hcs
    injection hcs with _ h2
    cases h2
  have HNE := Aside0.mk hne
  clear hh hR hne
  go_enter Tryz.func53, Tryz.ntmps53
  go_wp2_with fail
  go_region_law (refine Kd.R_append_step k24 (w0 := w) base rfl (.tmp 12) (.tmp 21) 33 24 _ 40 rfl Tryz.underlying33 info24 rfl (by decide) (by decide) v x.out ⟨kind, val, x.at_, tt⟩ [.int .i64 kind, .string val, .int .i64 x.at_, .int .i64 tt] (fun _ => True) (fun _ => False) (by simp [Act.eval, Act.put]) (by simp [Act.eval, Act.put]) (k24_mkM _ _ _ _) (fun _ hk => hk.elim) (fun _ _ => trivial) (Kd.R_drewN HR.out 1) (pw_below_drewN (Below.refl _ _) 1) hbase hl ?_; intro v1 w1 hR1 hB1 hgrow hat; obtain ⟨A1, cp1, rfl, hc1, hC1⟩ := Kd.R_reads hR1; have hw1 : w1.heap[g]? = some (.cells #[.string x.s, .int .i64 x.at_, v, .bool x.bad, .bool x.unsure] 67 (0, 0)) := (hgrow.block g hlt HNE.out).trans HH.out; have d2 := blk_cell hw1 2; have f2 := blk_frozen hw1 2; have d1 := blk_cell hw1 1; have f1 := blk_frozen hw1 1)
  all_goals
    have hw2 : (w1.setCell ⟨g, 2, none⟩ (.slice A1 (x.out.length + 1) cp1)).heap[g]? = some (.cells #[.string x.s, .int .i64 x.at_, .slice A1 (x.out.length + 1) cp1, .bool x.bad, .bool x.unsure] 67 (0, 0)) := (blk_set hw1 2 _).trans rfl
    have e1 := (blk_cell hw2 1).trans rfl
    have g1 := blk_frozen hw2 1
    have hR2 := Kd.R_set hR1 hw1 k24_E 2 (.slice A1 (x.out.length + 1) cp1)
    have hX : Lx (w1.setCell ⟨g, 2, none⟩ (.slice A1 (x.out.length + 1) cp1)) base g { x with out := x.out ++ [⟨kind, val, x.at_, tt⟩] } := ⟨_, hw2, hg, by simpa using hR2⟩
    have HX := Aside0.mk hX
    have HB1 := Aside0.mk hB1
    clear hX hR2 hw2 hw1 d1 d2 f1 f2 hR1 hC1 hat hgrow hB1
    go_wp2_with fail
    go_end0
    exact ⟨rfl, HX.out.set1 _, (HB1.out.setCell hg _).setCell hg _⟩
/-- The byte at a place; 0 behind the end. -/
def nx (s : ByteArray) (i : Int) : Int := if i < (s.size : Int) then bt s i else 0
set_option maxHeartbeats 400000 in
theorem next_any (base g : Nat) (x : LS) (i : Int) (w : World) (h : Lx w base g x) (hi : 0 ≤ i) :
    Calls Tryz.prog 62 #[.pointer (some ⟨g, 0, none⟩), .int .i64 i] w fun e w' => e = .returned (.int .u8 (nx x.s i)) ∧ ∃ m, w.drewN m = w' := by
  obtain ⟨v, c0, c1, c2, c3, c4, fz⟩ := h.cells
  clear h
  by_cases hlt : i < (x.s.size : Int)
  · have hx := bt_at x.s i
    have hnx : nx x.s i = bt x.s i := if_pos hlt
    have HN := Aside0.mk hnx
    clear hnx
    go_enter Tryz.func62, Tryz.ntmps62
    go_wp2_with fail
    all_goals
      go_ret
      rw [HN.out]
      exact ⟨rfl, 0, rfl⟩
  · have hnx : nx x.s i = 0 := if_neg hlt
    have HN := Aside0.mk hnx
    clear hnx
    go_enter Tryz.func62, Tryz.ntmps62
    go_wp2_with fail
    all_goals
      go_ret
      rw [HN.out]
      exact ⟨rfl, 0, rfl⟩
set_option maxHeartbeats 400000 in
theorem fail_any (base g : Nat) (x : LS) (w : World) (h : Lx w base g x) :
    Calls Tryz.prog 54 #[.pointer (some ⟨g, 0, none⟩)] w fun e w' => e = .returned (.tuple #[]) ∧ Lx w' base g { x with bad := true } ∧ Below base w w' := by
  have HX := Aside0.mk h
  obtain ⟨v, c0, c1, c2, c3, c4, fz⟩ := h.cells
  clear h
  go_enter Tryz.func54, Tryz.ntmps54
  go_wp2_with fail
  go_end0
  exact ⟨rfl, HX.out.set3 _, HX.out.bset (Below.refl _ _) 3 _⟩
set_option maxHeartbeats 400000 in
theorem enc_any (c : Int) (w : World) (hc0 : 0 ≤ c) (hc1 : c ≤ 1114111) :
    Calls Tryz.prog 94 #[.int .i64 c] w fun e w' => e = .returned (.string (Utf8.encode c)) ∧ Below w.heap.size w w' := by
  have hw : IntKind.i32.wrap c = c := by rw [i32_w]; unfold wrap32; omega
  have kr := run_convert_runes (P := Tryz.prog) (w.alloc (.cells #[.int .i32 (IntKind.i32.wrap c)] 21)) 232 9 21 ⟨w.heap.size, 0, none⟩ 1 1 [IntKind.i32.wrap c] (by simp) Tryz.underlying232 Tryz.underlying21 Tryz.underlying9 (by intro j hj; simp at hj; subst hj; rw [show (⟨w.heap.size, 0, none⟩ : Addr).add 0 = ⟨w.heap.size, 0, none⟩ from rfl, World.cell?_alloc_new]; rfl)
  have hre : runesBytes ([IntKind.i32.wrap c].take 1) = Utf8.encode c := by
    rw [hw]; simp [runesBytes]
  rw [hre] at kr
  clear hre
  rw [hw] at kr
  go_enter Tryz.func94, Tryz.ntmps94
  go_wp2_with fail
  go_ret
  exact ⟨rfl, below_alloc (Below.refl _ _) _⟩
end Go.Proofs.YtbobbognjmofdaaGreatDoor.Lex
end
