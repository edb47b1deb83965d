/-
  The reference's Read at a type, and two lists of nodes compared, walked.
-/
import Derived.Test.YtbobbognjmofdaaGreatDoorPrI
import Derived.Test.YtbobbognjmofdaaGreatDoorTkA
import Derived.Test.YtbobbognjmofdaaGreatDoorK11
namespace Go.Proofs.YtbobbognjmofdaaGreatDoor.Lex
open Go.RowKit Go.Proofs.YtbobbognjmofdaaGreatDoorW.PrintWords Go.Proofs.YtbobbognjmofdaaGreatDoorW.PrintLast Go.Proofs.YtbobbognjmofdaaGreatDoorW.PrintMore
open Go.Proofs.YtbobbognjmofdaaGreatDoor.Ptext
set_option linter.unusedVariables false
set_option linter.unusedSimpArgs false
theorem eqA50 (d : Nat) (w : World) (x0 y0 : Int) (x1 y1 x2 y2 x3 y3 : ByteArray) (x4 y4 x5 y5 : Int) :
    (Op.equalIn (d + 2) 50 (.agg #[.int .i64 x0, .string x1, .string x2, .string x3, .int .i64 x4, .int .i64 x5]) (.agg #[.int .i64 y0, .string y1, .string y2, .string y3, .int .i64 y4, .int .i64 y5])).run Tryz.prog w = .ok (x0 == y0 && (x1.toList == y1.toList && (x2.toList == y2.toList && (x3.toList == y3.toList && (x4 == y4 && (x5 == y5)))))) w := by
  refine eqA_of Tryz.underlying50 (by kernel_rfl) ?_
  refine eqf_cons (by rfl) (by go_simp; rfl) (by go_simp; rfl) (by go_simp) ?_
  refine eqf_cons (by rfl) (by go_simp; rfl) (by go_simp; rfl) (by go_simp) ?_
  refine eqf_cons (by rfl) (by go_simp; rfl) (by go_simp; rfl) (by go_simp) ?_
  refine eqf_cons (by rfl) (by go_simp; rfl) (by go_simp; rfl) (by go_simp) ?_
  refine eqf_cons (by rfl) (by go_simp; rfl) (by go_simp; rfl) (by go_simp) ?_
  exact eqf_last (by rfl) (by go_simp; rfl) (by go_simp; rfl) (by go_simp)
theorem neq50 (x0 : Int) (x1 x2 x3 : ByteArray) (x4 x5 : Int) (w : World) : (binOp .neq 50 (.agg #[.int .i64 x0, .string x1, .string x2, .string x3, .int .i64 x4, .int .i64 x5]) (.agg #[.int .i64 x0, .string x1, .string x2, .string x3, .int .i64 x4, .int .i64 x5])).run Tryz.prog w = .ok (.bool false) w := by
  have := eqA50 9998 w x0 x0 x1 x1 x2 x2 x3 x3 x4 x4 x5 x5
  rw [run_neq_struct]
  rw [show (10000 : Nat) = 9998 + 2 from rfl, this]
  simp [Result.andThen]
set_option maxHeartbeats 2000000 in
/-- Two lists of the same nodes are the same. -/
theorem sameDoc_any (l : List S50) (A1 A2 : Option Addr) (c1 c2 : Nat) (w : World) (h1 : Kd.C k50 w A1 l.length l) (h2 : Kd.C k50 w A2 l.length l) (hl : l.length ≤ 100000) :
    Calls Tryz.prog 25 #[.slice A1 l.length c1, .slice A2 l.length c2] w fun e w' => e = .returned (.bool true) ∧ Below w.heap.size w w' := by
  have H1 := Aside0.mk h1
  have H2 := Aside0.mk h2
  clear h1 h2
  go_enter Tryz.func25, Tryz.ntmps25
  go_wp2_with fail
  go_loopw [5] (fun v5 wr => ∃ (i : Int), 0 ≤ i ∧ i ≤ l.length ∧ v5 = .int .i64 i ∧ Aside0 (Below w.heap.size w wr)) (fun v5 _ => l.length - (intOf v5).toNat)
  case atStart => exact ⟨0, Int.le_refl _, by omega, rfl, ⟨Below.refl _ _⟩⟩
  case round =>
    obtain ⟨i, hi0, hi1, rfl, HB⟩ := hrel
    by_cases hlt : i < (l.length : Int)
    · have hltb : decide (i < (l.length : Int)) = true := decide_eq_true hlt
      obtain ⟨a1, rfl, p0, p1, p2, p3, p4, p5⟩ := at_T50 (Kd.C_below H1.out HB.out) i hi0 hlt
      obtain ⟨a2, rfl, q0, q1, q2, q3, q4, q5⟩ := at_T50 (Kd.C_below H2.out HB.out) i hi0 hlt
      obtain ⟨t, ht⟩ : ∃ t, t = rd_T50 l i := ⟨_, rfl⟩
      rw [← ht] at p0 p1 p2 p3 p4 p5 q0 q1 q2 q3 q4 q5
      clear ht
      have hin : i.toNat < l.length := by omega
      have hb1 := World.block_lt_of_cell? wr _ p0
      have hb2 := World.block_lt_of_cell? wr _ q0
      obtain ⟨t0, t1, t2, t3, t4, t5⟩ := t
      by_cases h15 : t0 = 15
      · subst h15
        have hq := neq50 15 t1 t2 t3 0 t5
        go_wp2_with fail
        go_region
        all_goals
          go_wp2_with fail
          go_roundw
          case rel => exact ⟨i + 1, by omega, by omega, rfl, ⟨by
            have hz := HB.out.size
            repeat (first | exact HB.out | refine Below.setCell ?_ (by first | (show w.heap.size ≤ _; omega) | (simp; omega)) _ | refine Below.alloc ?_ (by first | omega | (simp; omega)) _ | apply below_drew1 | apply pw_below_drewN)⟩⟩
          case measure => simp [intOf]; omega
      · have k15 : (t0 != 15) = true := by simpa using h15
        have hq := neq50 t0 t1 t2 t3 t4 t5
        go_wp2_with fail
        go_region
        all_goals
          go_wp2_with fail
          go_roundw
          case rel => exact ⟨i + 1, by omega, by omega, rfl, ⟨by
            have hz := HB.out.size
            repeat (first | exact HB.out | refine Below.setCell ?_ (by first | (show w.heap.size ≤ _; omega) | (simp; omega)) _ | refine Below.alloc ?_ (by first | omega | (simp; omega)) _ | apply below_drew1 | apply pw_below_drewN)⟩⟩
          case measure => simp [intOf]; omega
    · have hltb : decide (i < (l.length : Int)) = false := decide_eq_false hlt
      go_wp2_with fail
      go_ret
      exact ⟨rfl, HB.out⟩
end Go.Proofs.YtbobbognjmofdaaGreatDoor.Lex
